import JvmDerived
import JvmDerived.Pilot.@@N@@Statement
import JvmDerived.Pilot.@@N@@Code
set_option linter.unusedVariables false
set_option linter.unusedSimpArgs false
namespace Jvm.RoadKit
open Sem ClassFile Op Lib Jvm.Stand Jvm.Free Jvm.LawKit
section Own
variable {p : Program} {l : Launch} {e : Env} {R : Room} {s : State} {m : MethodId} {args : Array Value} {below : List Frame} {meth : Method} {c : Code} {T : State} {locs : List Loc} {cells slots : Nat}
/-- from S the run comes to an end of which K holds -/
def own_Go (p : Program) (e : Env) (below : List Frame) (K : State → Outcome → Prop) (S : State) : Prop := ∃ t o, Steps p.tables e below S t ∧ t.status = .running ∧ Ended t below o ∧ K t o
def own_K (s : State) (Q : Option Value → Heap → List Loc → Prop) (k n : Nat) (t : State) (o : Outcome) : Prop := ∃ v L, o = .returned v ∧ Q v t.heap L ∧ FrameEnd s o t L k n
theorem own_go {K : State → Outcome → Prop} {S S' : State} (h : ∀ t, Steps p.tables e below S' t → Steps p.tables e below S t) (g : own_Go p e below K S') : own_Go p e below K S := by
  obtain ⟨t, o, h1, h2⟩ := g; exact ⟨t, o, h t h1, h2⟩
theorem own_via {K : State → Outcome → Prop} {S S' : State} (h : Steps p.tables e below S S') (g : own_Go p e below K S') : own_Go p e below K S := by
  obtain ⟨t, o, h1, h2⟩ := g; exact ⟨t, o, h.trans h1, h2⟩
variable {Q : Option Value → Heap → List Loc → Prop} {k n : Nat}
theorem own_end (X : Stand p l e R s m args below meth c T locs cells slots) {v : Option Value} (hlk : meth.locks = false) (hv : meth.sig.returnType = none → v = none) (hk : cells ≤ k) (hn : slots ≤ n) (hQ : Q v T.heap locs) {S : State}
    (st : ∀ fs, (∀ (f : JFrame) (acts : List Action), f.method = m → f.locked = none → f.entered = [] → (doReturn e (T.setTop f) acts v).1 = T.setFrames fs) → Steps p.tables e below S (T.setFrames fs)) : own_Go p e below (own_K s Q k n) S := by
  obtain ⟨fs, hr, hrun, hended, hW, hsame⟩ := X.leave hv hlk
  exact ⟨_, _, st fs hr, hrun, hended, v, locs, rfl, hQ, ⟨_, rfl⟩, hW, hsame.mono hk hn⟩
theorem own_ret0 (X : Stand p l e R s m args below meth c T locs cells slots) (hx : p.tables.exec = Jvm.exec) (hlk : meth.locks = false) (hret : meth.sig.returnType = none) {pc : Nat} {Ls : Array Slot} (hd : decode c.code pc = .ok (.return_, 1)) (hk : cells ≤ k) (hn : slots ≤ n) (hQ : Q none T.heap locs) :
    own_Go p e below (own_K s Q k n) (T.setTop (mkF m pc Ls [])) := own_end X hlk (fun _ => rfl) hk hn hQ fun _ hr => X.returnOut hx hret hd hr
theorem own_retN (X : Stand p l e R s m args below meth c T locs cells slots) (hx : p.tables.exec = Jvm.exec) (hlk : meth.locks = false) {t : FieldType} (hret : meth.sig.returnType = some t) (ht : t = .boolean ∨ t = .byte ∨ t = .char ∨ t = .short) {pc : Nat} {Ls : Array Slot} {z : Int32} {rest : List Value} (hd : decode c.code pc = .ok (.ireturn, 1)) (hk : cells ≤ k) (hn : slots ≤ n) (hQ : Q (some (.int (nar t z))) T.heap locs) :
    own_Go p e below (own_K s Q k n) (T.setTop (mkF m pc Ls (.int z :: rest))) := own_end X hlk (fun h => by rw [hret] at h; cases h) hk hn hQ fun _ hr => retN X hx hret ht hd hr
theorem own_retI (X : Stand p l e R s m args below meth c T locs cells slots) (hx : p.tables.exec = Jvm.exec) (hlk : meth.locks = false) (hret : meth.sig.returnType = some .int) {pc : Nat} {Ls : Array Slot} {z : Int32} {rest : List Value} (hd : decode c.code pc = .ok (.ireturn, 1)) (hk : cells ≤ k) (hn : slots ≤ n) (hQ : Q (some (.int z)) T.heap locs) :
    own_Go p e below (own_K s Q k n) (T.setTop (mkF m pc Ls (.int z :: rest))) := own_end X hlk (fun h => by rw [hret] at h; cases h) hk hn hQ fun _ hr => retOut X hx hret rfl (Or.inl ⟨rfl, Or.inl rfl, z, rfl⟩) hd hr
theorem own_retJ (X : Stand p l e R s m args below meth c T locs cells slots) (hx : p.tables.exec = Jvm.exec) (hlk : meth.locks = false) (hret : meth.sig.returnType = some .long) {pc : Nat} {Ls : Array Slot} {z : Int64} {rest : List Value} (hd : decode c.code pc = .ok (.lreturn, 1)) (hk : cells ≤ k) (hn : slots ≤ n) (hQ : Q (some (.long z)) T.heap locs) :
    own_Go p e below (own_K s Q k n) (T.setTop (mkF m pc Ls (.long z :: rest))) := own_end X hlk (fun h => by rw [hret] at h; cases h) hk hn hQ fun _ hr => retOut X hx hret rfl (Or.inr (Or.inl ⟨rfl, rfl, z, rfl⟩)) hd hr
theorem own_retR (X : Stand p l e R s m args below meth c T locs cells slots) (hx : p.tables.exec = Jvm.exec) (hlk : meth.locks = false) {t : FieldType} (hret : meth.sig.returnType = some t) (ht : t.isReference = true) {pc : Nat} {Ls : Array Slot} {w : Value} {rest : List Value} (hw : w.isRef = true) (hd : decode c.code pc = .ok (.areturn, 1)) (hk : cells ≤ k) (hn : slots ≤ n) (hQ : Q (some w) T.heap locs) :
    own_Go p e below (own_K s Q k n) (T.setTop (mkF m pc Ls (w :: rest))) := own_end X hlk (fun h => by rw [hret] at h; cases h) hk hn hQ fun _ hr => retOut X hx hret (by cases t <;> first | rfl | cases ht) (Or.inr (Or.inr (Or.inr (Or.inr ⟨rfl, ht, hw⟩)))) hd hr
section Arrays
variable {Z : State} {h : Heap} {a : Addr} {k : ClassId} {ty : FieldType} {z : Int32} {vs : List Value} {dv : Value}
theorem own_iaload {g : JFrame} {target : State} (X : Stand p l e R s m args below meth c T locs cells slots) (hx : p.tables.exec = Jvm.exec) (hZ : Z.Warmed39 s.vm) (eT : T.heap = h) (F : Arv Z h a k .int z vs dv) (j : Int32) (v : Value) (hj : ¬ j < 0 ∧ j < z) (hat : vs.getD j.toNatClampNeg dv = v) (hg : g.method = m) {rest : List Value} (hs : g.stack = .int j :: .ref a :: rest) (hd : decode c.code g.pc = .ok (.iaload, 1))
    (hr : Steps p.tables e below (T.setTop { g with pc := g.pc + 1, stack := v :: rest }) target) : Steps p.tables e below (T.setTop g) target := by
  obtain ⟨cl, A, q, S, N, H, G⟩ := F
  have hi := inb_of S hj
  exact X.iaload hx (j := j) (v := v) (by rw [eT]; exact A.1) (State.isArrayOf_alike hZ.alike A.2.1) A.2.2 hi (Has.at H hi hat) hg hs hd _ hr
theorem own_caload {g : JFrame} {target : State} (X : Stand p l e R s m args below meth c T locs cells slots) (hx : p.tables.exec = Jvm.exec) (hZ : Z.Warmed39 s.vm) (eT : T.heap = h) (F : Arv Z h a k .char z vs dv) (j : Int32) (v : Value) (hj : ¬ j < 0 ∧ j < z) (hat : vs.getD j.toNatClampNeg dv = v) (hg : g.method = m) {rest : List Value} (hs : g.stack = .int j :: .ref a :: rest) (hd : decode c.code g.pc = .ok (.caload, 1))
    (hr : Steps p.tables e below (T.setTop { g with pc := g.pc + 1, stack := v :: rest }) target) : Steps p.tables e below (T.setTop g) target := by
  obtain ⟨cl, A, q, S, N, H, G⟩ := F
  have hi := inb_of S hj
  exact X.caload hx (j := j) (v := v) (by rw [eT]; exact A.1) (State.isArrayOf_alike hZ.alike A.2.1) A.2.2 hi (Has.at H hi hat) hg hs hd _ hr
theorem own_saload {g : JFrame} {target : State} (X : Stand p l e R s m args below meth c T locs cells slots) (hx : p.tables.exec = Jvm.exec) (hZ : Z.Warmed39 s.vm) (eT : T.heap = h) (F : Arv Z h a k .short z vs dv) (j : Int32) (v : Value) (hj : ¬ j < 0 ∧ j < z) (hat : vs.getD j.toNatClampNeg dv = v) (hg : g.method = m) {rest : List Value} (hs : g.stack = .int j :: .ref a :: rest) (hd : decode c.code g.pc = .ok (.saload, 1))
    (hr : Steps p.tables e below (T.setTop { g with pc := g.pc + 1, stack := v :: rest }) target) : Steps p.tables e below (T.setTop g) target := by
  obtain ⟨cl, A, q, S, N, H, G⟩ := F
  have hi := inb_of S hj
  exact X.saload hx (j := j) (v := v) (by rw [eT]; exact A.1) (State.isArrayOf_alike hZ.alike A.2.1) A.2.2 hi (Has.at H hi hat) hg hs hd _ hr
theorem own_baload {g : JFrame} {target : State} (X : Stand p l e R s m args below meth c T locs cells slots) (hx : p.tables.exec = Jvm.exec) (hZ : Z.Warmed39 s.vm) (eT : T.heap = h) (F : Arv Z h a k .byte z vs dv) (j : Int32) (v : Value) (hj : ¬ j < 0 ∧ j < z) (hat : vs.getD j.toNatClampNeg dv = v) (hg : g.method = m) {rest : List Value} (hs : g.stack = .int j :: .ref a :: rest) (hd : decode c.code g.pc = .ok (.baload, 1))
    (hr : Steps p.tables e below (T.setTop { g with pc := g.pc + 1, stack := v :: rest }) target) : Steps p.tables e below (T.setTop g) target := by
  obtain ⟨cl, A, q, S, N, H, G⟩ := F
  have hi := inb_of S hj
  exact X.baloadBytes hx (j := j) (v := v) (by rw [eT]; exact A.1) (State.isArrayOf_alike hZ.alike A.2.1) A.2.2 hi (Has.at H hi hat) hg hs hd _ hr
theorem own_zaload {g : JFrame} {target : State} (X : Stand p l e R s m args below meth c T locs cells slots) (hx : p.tables.exec = Jvm.exec) (hZ : Z.Warmed39 s.vm) (eT : T.heap = h) (F : Arv Z h a k .boolean z vs dv) (j : Int32) (v : Value) (hj : ¬ j < 0 ∧ j < z) (hat : vs.getD j.toNatClampNeg dv = v) (hg : g.method = m) {rest : List Value} (hs : g.stack = .int j :: .ref a :: rest) (hd : decode c.code g.pc = .ok (.baload, 1))
    (hr : Steps p.tables e below (T.setTop { g with pc := g.pc + 1, stack := v :: rest }) target) : Steps p.tables e below (T.setTop g) target := by
  obtain ⟨cl, A, q, S, N, H, G⟩ := F
  have hi := inb_of S hj
  exact X.baloadBooleans hx (j := j) (v := v) (by rw [eT]; exact A.1) (State.isArrayOf_alike hZ.alike A.2.1) A.2.2 hi (Has.at H hi hat) hg hs hd _ hr
theorem own_laload {g : JFrame} {target : State} (X : Stand p l e R s m args below meth c T locs cells slots) (hx : p.tables.exec = Jvm.exec) (hZ : Z.Warmed39 s.vm) (eT : T.heap = h) (F : Arv Z h a k .long z vs dv) (j : Int32) (v : Value) (hj : ¬ j < 0 ∧ j < z) (hat : vs.getD j.toNatClampNeg dv = v) (hg : g.method = m) {rest : List Value} (hs : g.stack = .int j :: .ref a :: rest) (hd : decode c.code g.pc = .ok (.laload, 1))
    (hr : Steps p.tables e below (T.setTop { g with pc := g.pc + 1, stack := v :: rest }) target) : Steps p.tables e below (T.setTop g) target := by
  obtain ⟨cl, A, q, S, N, H, G⟩ := F
  have hi := inb_of S hj
  exact X.laload hx (j := j) (v := v) (by rw [eT]; exact A.1) (State.isArrayOf_alike hZ.alike A.2.1) A.2.2 hi (Has.at H hi hat) hg hs hd _ hr
theorem own_aaload {g : JFrame} {target : State} (X : Stand p l e R s m args below meth c T locs cells slots) (hx : p.tables.exec = Jvm.exec) (hZ : Z.Warmed39 s.vm) (eT : T.heap = h) (F : Arv Z h a k ty z vs dv) (j : Int32) (v : Value) (hj : ¬ j < 0 ∧ j < z) (hat : vs.getD j.toNatClampNeg dv = v) (hty : ty.isReference = true) (hg : g.method = m) {rest : List Value} (hs : g.stack = .int j :: .ref a :: rest) (hd : decode c.code g.pc = .ok (.aaload, 1))
    (hr : Steps p.tables e below (T.setTop { g with pc := g.pc + 1, stack := v :: rest }) target) : Steps p.tables e below (T.setTop g) target := by
  obtain ⟨cl, A, q, S, N, H, G⟩ := F
  have hi := inb_of S hj
  exact X.aaload hx (j := j) (v := v) (by rw [eT]; exact A.1) (State.isArrayOf_alike hZ.alike A.2.1) hty A.2.2 hi (Has.at H hi hat) hg hs hd _ hr
theorem own_alen {g : JFrame} {target : State} (X : Stand p l e R s m args below meth c T locs cells slots) (hx : p.tables.exec = Jvm.exec) (hZ : Z.Warmed39 s.vm) (eT : T.heap = h) (F : Arv Z h a k ty z vs dv) (hg : g.method = m) {rest : List Value} (hs : g.stack = .ref a :: rest) (hd : decode c.code g.pc = .ok (.arraylength, 1))
    (hr : Steps p.tables e below (T.setTop { g with pc := g.pc + 1, stack := .int z :: rest }) target) : Steps p.tables e below (T.setTop g) target := by
  obtain ⟨cl, A, q, S, N, -, -⟩ := F
  exact X.arraylength hx (by rw [eT]; exact A.1) (State.isArrayOf_alike hZ.alike A.2.1) hg hs hd _ (by rw [len_of S N]; exact hr)
theorem own_stI {K : State → Outcome → Prop} {n0 : Nat} (X : Stand p l e R s m args below meth c T locs cells slots) (hx : p.tables.exec = Jvm.exec) (hZ : Z.Warmed39 s.vm) (eT : T.heap = h) (F : Arv Z h a k .int z vs dv) (j : Int32) (x : Int32) (i : Nat) (hj : ¬ j < 0 ∧ j < z) (hi : j.toNatClampNeg = i) (hl : i < vs.length) (vs' : List Value) (hv : vs.set i (.int x) = vs') (N : Fr n0 locs) (ge : n0 ≤ a) {pc : Nat} {Ls : Array Slot} {rest : List Value} (hd : decode c.code pc = .ok (.iastore, 1))
    (kk : ∀ (T' : State) (h' : Heap) (L' : List Loc), Stand p l e R s m args below meth c T' L' cells slots → T'.heap = h' → Wr h h' a i (.int x) → Fr n0 L' → Arv Z h' a k .int z vs' dv → own_Go p e below K (T'.setTop (mkF m (pc + 1) Ls rest))) : own_Go p e below K (T.setTop (mkF m pc Ls (.int x :: .int j :: .ref a :: rest))) := by
  obtain ⟨cl, A, q, S, M, H, G⟩ := F
  subst hi; subst hv
  obtain ⟨T', h', X', e', W, st⟩ := stI X hx hZ eT A (j := j) (inb_of S hj) (g := mkF m pc Ls (.int x :: .int j :: .ref a :: rest)) rfl rfl hd
  exact own_go st (kk T' h' _ X' e' W (Fr.snoc X' N ge) (Arv.set A q S M H G rfl W _ rfl hl))
theorem own_stJ {K : State → Outcome → Prop} {n0 : Nat} (X : Stand p l e R s m args below meth c T locs cells slots) (hx : p.tables.exec = Jvm.exec) (hZ : Z.Warmed39 s.vm) (eT : T.heap = h) (F : Arv Z h a k .long z vs dv) (j : Int32) (x : Int64) (i : Nat) (hj : ¬ j < 0 ∧ j < z) (hi : j.toNatClampNeg = i) (hl : i < vs.length) (vs' : List Value) (hv : vs.set i (.long x) = vs') (N : Fr n0 locs) (ge : n0 ≤ a) {pc : Nat} {Ls : Array Slot} {rest : List Value} (hd : decode c.code pc = .ok (.lastore, 1))
    (kk : ∀ (T' : State) (h' : Heap) (L' : List Loc), Stand p l e R s m args below meth c T' L' cells slots → T'.heap = h' → Wr h h' a i (.long x) → Fr n0 L' → Arv Z h' a k .long z vs' dv → own_Go p e below K (T'.setTop (mkF m (pc + 1) Ls rest))) : own_Go p e below K (T.setTop (mkF m pc Ls (.long x :: .int j :: .ref a :: rest))) := by
  obtain ⟨cl, A, q, S, M, H, G⟩ := F
  subst hi; subst hv
  obtain ⟨T', h', X', e', W, st⟩ := stJ X hx hZ eT A (j := j) (inb_of S hj) (g := mkF m pc Ls (.long x :: .int j :: .ref a :: rest)) rfl rfl hd
  exact own_go st (kk T' h' _ X' e' W (Fr.snoc X' N ge) (Arv.set A q S M H G rfl W _ rfl hl))
theorem own_stB {K : State → Outcome → Prop} {n0 : Nat} (X : Stand p l e R s m args below meth c T locs cells slots) (hx : p.tables.exec = Jvm.exec) (hZ : Z.Warmed39 s.vm) (eT : T.heap = h) (F : Arv Z h a k .byte z vs dv) (j : Int32) (x x' : Int32) (i : Nat) (hj : ¬ j < 0 ∧ j < z) (hi : j.toNatClampNeg = i) (hl : i < vs.length) (hn : nar .byte x = x') (vs' : List Value) (hv : vs.set i (.int x') = vs') (N : Fr n0 locs) (ge : n0 ≤ a) {pc : Nat} {Ls : Array Slot} {rest : List Value} (hd : decode c.code pc = .ok (.bastore, 1))
    (kk : ∀ (T' : State) (h' : Heap) (L' : List Loc), Stand p l e R s m args below meth c T' L' cells slots → T'.heap = h' → Wr h h' a i (.int x') → Fr n0 L' → Arv Z h' a k .byte z vs' dv → own_Go p e below K (T'.setTop (mkF m (pc + 1) Ls rest))) : own_Go p e below K (T.setTop (mkF m pc Ls (.int x :: .int j :: .ref a :: rest))) := by
  obtain ⟨cl, A, q, S, M, H, G⟩ := F
  subst hn; subst hi; subst hv
  obtain ⟨T', h', X', e', W, st⟩ := stB X hx hZ eT A (j := j) (inb_of S hj) (g := mkF m pc Ls (.int x :: .int j :: .ref a :: rest)) rfl rfl hd
  exact own_go st (kk T' h' _ X' e' W (Fr.snoc X' N ge) (Arv.set A q S M H G (fits_nar_byte _) W _ rfl hl))
theorem own_stZ {K : State → Outcome → Prop} {n0 : Nat} (X : Stand p l e R s m args below meth c T locs cells slots) (hx : p.tables.exec = Jvm.exec) (hZ : Z.Warmed39 s.vm) (eT : T.heap = h) (F : Arv Z h a k .boolean z vs dv) (j : Int32) (x x' : Int32) (i : Nat) (hj : ¬ j < 0 ∧ j < z) (hi : j.toNatClampNeg = i) (hl : i < vs.length) (hn : nar .boolean x = x') (vs' : List Value) (hv : vs.set i (.int x') = vs') (N : Fr n0 locs) (ge : n0 ≤ a) {pc : Nat} {Ls : Array Slot} {rest : List Value} (hd : decode c.code pc = .ok (.bastore, 1))
    (kk : ∀ (T' : State) (h' : Heap) (L' : List Loc), Stand p l e R s m args below meth c T' L' cells slots → T'.heap = h' → Wr h h' a i (.int x') → Fr n0 L' → Arv Z h' a k .boolean z vs' dv → own_Go p e below K (T'.setTop (mkF m (pc + 1) Ls rest))) : own_Go p e below K (T.setTop (mkF m pc Ls (.int x :: .int j :: .ref a :: rest))) := by
  obtain ⟨cl, A, q, S, M, H, G⟩ := F
  subst hn; subst hi; subst hv
  obtain ⟨T', h', X', e', W, st⟩ := stZ X hx hZ eT A (j := j) (inb_of S hj) (g := mkF m pc Ls (.int x :: .int j :: .ref a :: rest)) rfl rfl hd
  exact own_go st (kk T' h' _ X' e' W (Fr.snoc X' N ge) (Arv.set A q S M H G (fits_nar_bool _) W _ rfl hl))
theorem own_stC {K : State → Outcome → Prop} {n0 : Nat} (X : Stand p l e R s m args below meth c T locs cells slots) (hx : p.tables.exec = Jvm.exec) (hZ : Z.Warmed39 s.vm) (eT : T.heap = h) (F : Arv Z h a k .char z vs dv) (j : Int32) (x x' : Int32) (i : Nat) (hj : ¬ j < 0 ∧ j < z) (hi : j.toNatClampNeg = i) (hl : i < vs.length) (hn : nar .char x = x') (vs' : List Value) (hv : vs.set i (.int x') = vs') (N : Fr n0 locs) (ge : n0 ≤ a) {pc : Nat} {Ls : Array Slot} {rest : List Value} (hd : decode c.code pc = .ok (.castore, 1))
    (kk : ∀ (T' : State) (h' : Heap) (L' : List Loc), Stand p l e R s m args below meth c T' L' cells slots → T'.heap = h' → Wr h h' a i (.int x') → Fr n0 L' → Arv Z h' a k .char z vs' dv → own_Go p e below K (T'.setTop (mkF m (pc + 1) Ls rest))) : own_Go p e below K (T.setTop (mkF m pc Ls (.int x :: .int j :: .ref a :: rest))) := by
  obtain ⟨cl, A, q, S, M, H, G⟩ := F
  subst hn; subst hi; subst hv
  obtain ⟨T', h', X', e', W, st⟩ := stC X hx hZ eT A (j := j) (inb_of S hj) (g := mkF m pc Ls (.int x :: .int j :: .ref a :: rest)) rfl rfl hd
  exact own_go st (kk T' h' _ X' e' W (Fr.snoc X' N ge) (Arv.set A q S M H G (fits_nar_char _) W _ rfl hl))
theorem own_stS {K : State → Outcome → Prop} {n0 : Nat} (X : Stand p l e R s m args below meth c T locs cells slots) (hx : p.tables.exec = Jvm.exec) (hZ : Z.Warmed39 s.vm) (eT : T.heap = h) (F : Arv Z h a k .short z vs dv) (j : Int32) (x x' : Int32) (i : Nat) (hj : ¬ j < 0 ∧ j < z) (hi : j.toNatClampNeg = i) (hl : i < vs.length) (hn : nar .short x = x') (vs' : List Value) (hv : vs.set i (.int x') = vs') (N : Fr n0 locs) (ge : n0 ≤ a) {pc : Nat} {Ls : Array Slot} {rest : List Value} (hd : decode c.code pc = .ok (.sastore, 1))
    (kk : ∀ (T' : State) (h' : Heap) (L' : List Loc), Stand p l e R s m args below meth c T' L' cells slots → T'.heap = h' → Wr h h' a i (.int x') → Fr n0 L' → Arv Z h' a k .short z vs' dv → own_Go p e below K (T'.setTop (mkF m (pc + 1) Ls rest))) : own_Go p e below K (T.setTop (mkF m pc Ls (.int x :: .int j :: .ref a :: rest))) := by
  obtain ⟨cl, A, q, S, M, H, G⟩ := F
  subst hn; subst hi; subst hv
  obtain ⟨T', h', X', e', W, st⟩ := stS X hx hZ eT A (j := j) (inb_of S hj) (g := mkF m pc Ls (.int x :: .int j :: .ref a :: rest)) rfl rfl hd
  exact own_go st (kk T' h' _ X' e' W (Fr.snoc X' N ge) (Arv.set A q S M H G (fits_nar_short _) W _ rfl hl))
theorem own_stR {K : State → Outcome → Prop} {n0 : Nat} (X : Stand p l e R s m args below meth c T locs cells slots) (hx : p.tables.exec = Jvm.exec) (hZ : Z.Warmed39 s.vm) (eT : T.heap = h) (F : Arv Z h a k ty z vs dv) (j : Int32) (v : Value) (i : Nat) (hj : ¬ j < 0 ∧ j < z) (hi : j.toNatClampNeg = i) (hl : i < vs.length) (sto : ∀ cl : Cell, Arr Z h a cl ty → cl.cls = k → Sto Z h a v) (hty : ty.isReference = true) (vs' : List Value) (hv : vs.set i v = vs') (N : Fr n0 locs) (ge : n0 ≤ a) {pc : Nat} {Ls : Array Slot} {rest : List Value} (hd : decode c.code pc = .ok (.aastore, 1))
    (kk : ∀ (T' : State) (h' : Heap) (L' : List Loc), Stand p l e R s m args below meth c T' L' cells slots → T'.heap = h' → Wr h h' a i v → Fr n0 L' → Arv Z h' a k ty z vs' dv → own_Go p e below K (T'.setTop (mkF m (pc + 1) Ls rest))) : own_Go p e below K (T.setTop (mkF m pc Ls (v :: .int j :: .ref a :: rest))) := by
  obtain ⟨cl, A, q, S, M, H, G⟩ := F
  subst hi; subst hv
  have so := sto cl A q
  obtain ⟨T', h', X', e', W, st⟩ := stR X hx hZ eT A (j := j) (inb_of S hj) hty so (g := mkF m pc Ls (v :: .int j :: .ref a :: rest)) rfl rfl hd
  have fv : fits ty v = true := by
    rcases so with rfl | ⟨_, _, _, _, _, _, _, y, _, _, _, _, rfl, _⟩ <;> cases ty <;> first | rfl | cases hty
  exact own_go st (kk T' h' _ X' e' W (Fr.snoc X' N ge) (Arv.set A q S M H G fv W _ rfl hl))
end Arrays
section Calls
variable {own : String} {index : Nat} {y z : MethodName} {bytes : ByteArray} {maxL : Nat} {ret : Option FieldType} {rm : Room} {W : Nat} {as' : Array Value} {Z : State} {a0 : Array Value} {h : Heap} {K : State → Outcome → Prop} {pc : Nat} {Ls : Array Slot} {argsL rest stk : List Value} {C : String} {b : Addr}
theorem own_cs (X : Stand p l e R s m args below meth c T locs cells slots) (hx : p.tables.exec = Jvm.exec) (hZ : Z.Warmed39 s.vm) (hown : s.vm.findClass own = some m.cls) (w1 : (Cond.methodLink own index y).before a0 Z = true) (w2 : (Cond.static y).before a0 Z = true) (w3 : (Cond.initialized y.cls).before a0 Z = true) (w4 : (Cond.code y bytes maxL ret).before a0 Z = true)
    (hy : y.cls ≠ "java/lang/invoke/MethodHandle" ∧ y.cls ≠ "java/lang/invoke/VarHandle")
    (hM : MetFree l y (head1 [Cond.code y bytes maxL ret] rm) (fun a U => a = as' ∧ Z.Warmed39 U.vm ∧ U.heap = h) (fun _ _ _ _ _ => True) (fun _ U o U' => ∃ v L, o = .returned v ∧ Q v U'.heap L ∧ FrameEnd U o U' L rm.cells rm.slots))
    (hf : rm.frames + 1 ≤ R.frames) (hl : W + (maxL + 11) + rm.locals ≤ R.locals) (hc : cells + rm.cells ≤ R.cells) (hs : slots + rm.slots ≤ R.slots) (eT : T.heap = h) (hsz : Ls.size = c.maxLocals) (hlen : ∀ sig, parseMethodDescriptor y.desc = some sig → argsL.length = sig.parameters.length)
    (hst : stk = argsL.reverse ++ rest) (has : argsL.toArray = as') (hW : (rest.map fun v => v.category).sum ≤ W) (hd : decode c.code pc = .ok (.invokestatic index, 3))
    (k : ∀ (v : Option Value) (T' : State) (L : List Loc), Stand p l e R s m args below meth c T' (locs ++ L) (cells + rm.cells) (slots + rm.slots) → Q v T'.heap L → own_Go p e below K (T'.setTop (mkF m (pc + 3) Ls (v.toList ++ rest)))) : own_Go p e below K (T.setTop (mkF m pc Ls stk)) := by
  obtain ⟨v, _, ⟨T', L', k', n'⟩, -, X', ⟨L, hQ, h1, h2, h3⟩, st⟩ := Jvm.LawKit.callS X hx (y := y) hown (mvT hZ w1) (mvT hZ w2) (mvT hZ w3) (mvT hZ w4) hy (backOf (W := W) hM hZ w4 w3 hf hl) (g := mkF m pc Ls stk) rfl hsz (argsL := argsL) (rest := rest) hlen hst (by show 2 * 0 + _ ≤ _; simpa using hW) hd (fun _ _ => ⟨has, eT, hc, hs⟩)
  dsimp only [Pt.U, Pt.locs, Pt.cells, Pt.slots] at X' h1 h2 h3 st hQ
  subst h1 h2 h3
  exact own_go st (k v T' L X' hQ)
theorem own_cp (X : Stand p l e R s m args below meth c T locs cells slots) (hx : p.tables.exec = Jvm.exec) (hZ : Z.Warmed39 s.vm) (hown : s.vm.findClass own = some m.cls) (hy1 : y.name = "<init>") (w1 : (Cond.methodLink own index y).before a0 Z = true) (w2 : (Cond.instanceMethod y).before a0 Z = true) (w3 : (Cond.initialized y.cls).before a0 Z = true) (w4 : (Cond.code y bytes maxL none).before a0 Z = true)
    (hy : y.cls ≠ "java/lang/invoke/MethodHandle" ∧ y.cls ≠ "java/lang/invoke/VarHandle")
    (hM : MetFree l y (head1 [Cond.code y bytes maxL none] rm) (fun a U => a = as' ∧ Z.Warmed39 U.vm ∧ U.heap = h) (fun _ _ _ _ _ => True) (fun _ U o U' => ∃ v L, o = .returned v ∧ Q v U'.heap L ∧ FrameEnd U o U' L rm.cells rm.slots))
    (hf : rm.frames + 1 ≤ R.frames) (hl : W + (maxL + 11) + rm.locals ≤ R.locals) (hc : cells + rm.cells ≤ R.cells) (hs : slots + rm.slots ≤ R.slots) (eT : T.heap = h) (hsz : Ls.size = c.maxLocals) (hlen : ∀ sig, parseMethodDescriptor y.desc = some sig → argsL.length = sig.parameters.length)
    (hst : stk = argsL.reverse ++ .ref b :: rest) (has : (.ref b :: argsL).toArray = as') (hW : (rest.map fun v => v.category).sum ≤ W) (hd : decode c.code pc = .ok (.invokespecial index, 3))
    (k : ∀ (v : Option Value) (T' : State) (L : List Loc), Stand p l e R s m args below meth c T' (locs ++ L) (cells + rm.cells) (slots + rm.slots) → Q v T'.heap L → own_Go p e below K (T'.setTop (mkF m (pc + 3) Ls (v.toList ++ rest)))) : own_Go p e below K (T.setTop (mkF m pc Ls stk)) := by
  obtain ⟨v, _, ⟨T', L', k', n'⟩, -, X', ⟨L, hQ, h1, h2, h3⟩, st⟩ := X.specialBack hx (y := y) hy1 hown (mvT hZ w1) (mvT hZ w2) (mvT hZ w4) hy (backOf (W := W) hM hZ w4 w3 hf hl) (g := mkF m pc Ls stk) rfl hsz (Steps.refl _) (a := b) (argsL := argsL) (rest := rest) hlen hst (by show 2 * 0 + _ ≤ _; simpa using hW) hd (fun _ _ => ⟨has, eT, hc, hs⟩)
  dsimp only [Pt.U, Pt.locs, Pt.cells, Pt.slots] at X' h1 h2 h3 st hQ
  subst h1 h2 h3
  exact own_via st (k v T' L X' hQ)
theorem own_cv (X : Stand p l e R s m args below meth c T locs cells slots) (hx : p.tables.exec = Jvm.exec) (hZ : Z.Warmed39 s.vm) (hown : s.vm.findClass own = some m.cls) (nf : NotFace s y) (w1 : (Cond.methodLink own index y).before a0 Z = true) (w2 : (Cond.declares y).before a0 Z = true) (w5 : (Cond.selects C y z).before a0 Z = true) (w6 : (Cond.instanceMethod z).before a0 Z = true) (w3 : (Cond.initialized z.cls).before a0 Z = true) (w4 : (Cond.code z bytes maxL ret).before a0 Z = true)
    (hy : y.cls ≠ "java/lang/invoke/MethodHandle" ∧ y.cls ≠ "java/lang/invoke/VarHandle") (E : Exa Z h b C)
    (hM : MetFree l z (head1 [Cond.code z bytes maxL ret] rm) (fun a U => a = as' ∧ Z.Warmed39 U.vm ∧ U.heap = h) (fun _ _ _ _ _ => True) (fun _ U o U' => ∃ v L, o = .returned v ∧ Q v U'.heap L ∧ FrameEnd U o U' L rm.cells rm.slots))
    (hf : rm.frames + 1 ≤ R.frames) (hl : W + (maxL + 11) + rm.locals ≤ R.locals) (hc : cells + rm.cells ≤ R.cells) (hs : slots + rm.slots ≤ R.slots) (eT : T.heap = h) (hsz : Ls.size = c.maxLocals) (hlen : ∀ sig, parseMethodDescriptor y.desc = some sig → argsL.length = sig.parameters.length)
    (hst : stk = argsL.reverse ++ .ref b :: rest) (has : (.ref b :: argsL).toArray = as') (hW : (rest.map fun v => v.category).sum ≤ W) (hd : decode c.code pc = .ok (.invokevirtual index, 3))
    (k : ∀ (v : Option Value) (T' : State) (L : List Loc), Stand p l e R s m args below meth c T' (locs ++ L) (cells + rm.cells) (slots + rm.slots) → Q v T'.heap L → own_Go p e below K (T'.setTop (mkF m (pc + 3) Ls (v.toList ++ rest)))) : own_Go p e below K (T.setTop (mkF m pc Ls stk)) := by
  obtain ⟨cq, kq, qa, qb, qc⟩ := isOf hZ eT E
  obtain ⟨v, _, ⟨T', L', k', n'⟩, -, X', ⟨L, hQ, h1, h2, h3⟩, st⟩ := X.virtualBack hx (y := y) (z := z) hown (mvT hZ w1) (mvT hZ w2) nf (mvT hZ w5) (mvT hZ w6) hy (backOf (W := W) hM hZ w4 w3 hf hl) qa qc (g := mkF m pc Ls stk) rfl hsz (Steps.refl _) (argsL := argsL) (rest := rest) hlen hst (by show 2 * 0 + _ ≤ _; simpa using hW) hd (fun _ _ => ⟨has, eT, hc, hs⟩)
  dsimp only [Pt.U, Pt.locs, Pt.cells, Pt.slots] at X' h1 h2 h3 st hQ
  subst h1 h2 h3
  exact own_via st (k v T' L X' hQ)
theorem own_cq (X : Stand p l e R s m args below meth c T locs cells slots) (hx : p.tables.exec = Jvm.exec) (hZ : Z.Warmed39 s.vm) (hown : s.vm.findClass own = some m.cls) (w1 : (Cond.methodLink own index y).before a0 Z = true) (w6 : (Cond.instanceMethod y).before a0 Z = true) (w5 : (Cond.selects y.cls y y).before a0 Z = true) (w7 : (Cond.privateMethod y).before a0 Z = true) (w3 : (Cond.initialized y.cls).before a0 Z = true) (w4 : (Cond.code y bytes maxL ret).before a0 Z = true)
    (hy : y.cls ≠ "java/lang/invoke/MethodHandle" ∧ y.cls ≠ "java/lang/invoke/VarHandle") (E : Exa Z h b C)
    (hM : MetFree l y (head1 [Cond.code y bytes maxL ret] rm) (fun a U => a = as' ∧ Z.Warmed39 U.vm ∧ U.heap = h) (fun _ _ _ _ _ => True) (fun _ U o U' => ∃ v L, o = .returned v ∧ Q v U'.heap L ∧ FrameEnd U o U' L rm.cells rm.slots))
    (hf : rm.frames + 1 ≤ R.frames) (hl : W + (maxL + 11) + rm.locals ≤ R.locals) (hc : cells + rm.cells ≤ R.cells) (hs : slots + rm.slots ≤ R.slots) (eT : T.heap = h) (hsz : Ls.size = c.maxLocals) (hlen : ∀ sig, parseMethodDescriptor y.desc = some sig → argsL.length = sig.parameters.length)
    (hst : stk = argsL.reverse ++ .ref b :: rest) (has : (.ref b :: argsL).toArray = as') (hW : (rest.map fun v => v.category).sum ≤ W) (hd : decode c.code pc = .ok (.invokevirtual index, 3))
    (k : ∀ (v : Option Value) (T' : State) (L : List Loc), Stand p l e R s m args below meth c T' (locs ++ L) (cells + rm.cells) (slots + rm.slots) → Q v T'.heap L → own_Go p e below K (T'.setTop (mkF m (pc + 3) Ls (v.toList ++ rest)))) : own_Go p e below K (T.setTop (mkF m pc Ls stk)) := by
  obtain ⟨cq, q1, q2⟩ := E.cell
  obtain ⟨v, _, ⟨T', L', k', n'⟩, -, X', ⟨L, hQ, h1, h2, h3⟩, st⟩ := X.privateBack hx (y := y) hown (mvT hZ w1) (mvT hZ w6) (mvT hZ w5) (Cond.privateMethod_at (mvP hZ w7 (args := #[]))) (mvT hZ w4) hy (backOf (W := W) hM hZ w4 w3 hf hl) (g := mkF m pc Ls stk) rfl hsz (Steps.refl _) (a := b) (by rw [eT]; exact q1) q2 (argsL := argsL) (rest := rest) hlen hst (by show 2 * 0 + _ ≤ _; simpa using hW) hd (fun _ _ => ⟨has, eT, hc, hs⟩)
  dsimp only [Pt.U, Pt.locs, Pt.cells, Pt.slots] at X' h1 h2 h3 st hQ
  subst h1 h2 h3
  exact own_via st (k v T' L X' hQ)
theorem own_cu {owner : String} (X : Stand p l e R s m args below meth c T locs cells slots) (hx : p.tables.exec = Jvm.exec) (hZ : Z.Warmed39 s.vm) (hown : s.vm.findClass own = some m.cls) (w1 : (Cond.methodLink own index y).before a0 Z = true) (w8 : (Cond.sameMethod y.cls owner y.name y.desc).before a0 Z = true) (w2 : (Cond.declares ⟨owner, y.name, y.desc⟩).before a0 Z = true) (w5 : (Cond.selects C y z).before a0 Z = true) (w6 : (Cond.instanceMethod z).before a0 Z = true) (w3 : (Cond.initialized z.cls).before a0 Z = true) (w4 : (Cond.code z bytes maxL ret).before a0 Z = true)
    (hy : owner ≠ "java/lang/invoke/MethodHandle" ∧ owner ≠ "java/lang/invoke/VarHandle") (E : Exa Z h b C)
    (hM : MetFree l z (head1 [Cond.code z bytes maxL ret] rm) (fun a U => a = as' ∧ Z.Warmed39 U.vm ∧ U.heap = h) (fun _ _ _ _ _ => True) (fun _ U o U' => ∃ v L, o = .returned v ∧ Q v U'.heap L ∧ FrameEnd U o U' L rm.cells rm.slots))
    (hf : rm.frames + 1 ≤ R.frames) (hl : W + (maxL + 11) + rm.locals ≤ R.locals) (hc : cells + rm.cells ≤ R.cells) (hs : slots + rm.slots ≤ R.slots) (eT : T.heap = h) (hsz : Ls.size = c.maxLocals) (hlen : ∀ sig, parseMethodDescriptor y.desc = some sig → argsL.length = sig.parameters.length)
    (hst : stk = argsL.reverse ++ .ref b :: rest) (has : (.ref b :: argsL).toArray = as') (hW : (rest.map fun v => v.category).sum ≤ W) (hd : decode c.code pc = .ok (.invokevirtual index, 3))
    (k : ∀ (v : Option Value) (T' : State) (L : List Loc), Stand p l e R s m args below meth c T' (locs ++ L) (cells + rm.cells) (slots + rm.slots) → Q v T'.heap L → own_Go p e below K (T'.setTop (mkF m (pc + 3) Ls (v.toList ++ rest)))) : own_Go p e below K (T.setTop (mkF m pc Ls stk)) := by
  obtain ⟨cq, kq, qa, qb, qc⟩ := isOf hZ eT E
  obtain ⟨v, _, ⟨T', L', k', n'⟩, -, X', ⟨L, hQ, h1, h2, h3⟩, st⟩ := X.virtualBackUp hx (x := y) (y := z) (owner := owner) hown (mvT hZ w1) (mvT hZ w8) (mvT hZ w2) hy (mvT hZ w5) (mvT hZ w6) (backOf (W := W) hM hZ w4 w3 hf hl) qa qc (g := mkF m pc Ls stk) rfl hsz (Steps.refl _) (argsL := argsL) (rest := rest) hlen hst (by show 2 * 0 + _ ≤ _; simpa using hW) hd (fun _ _ => ⟨has, eT, hc, hs⟩)
  dsimp only [Pt.U, Pt.locs, Pt.cells, Pt.slots] at X' h1 h2 h3 st hQ
  subst h1 h2 h3
  exact own_via st (k v T' L X' hQ)
end Calls
theorem own_fld_eq {Z : State} {h : Heap} {a : Addr} {C n d : String} {v w : Value} (F : Fld Z h a C n d v) (G : Fld Z h a C n d w) : v = w := Classical.byContradiction fun q => Fld.ne F G q rfl
theorem own_nsroot {Z : State} {a0 : Array Value} {O K : String} {n : Nat} (w : (Cond.noSuperclass O).before a0 Z = true) (wk : (Cond.instantiable K n).before a0 Z = true) (hn : O ≠ K) : NS Z O K := by
  obtain ⟨c, k, h1, h2, h3, -, -⟩ := Cond.noSuperclass_spec w
  obtain ⟨t, kt, g1, -⟩ := Cond.instantiable_spec wk
  have ne := ids_ne h1 g1 hn
  refine ⟨c, t, h1, g1, fun fuel => ?_⟩
  cases fuel with
  | zero => rfl
  | succ f => simp [Vm.isSubclassAux, ne, h2, h3]
theorem own_nsno {Z : State} {a0 : Array Value} {C S K : String} {n : Nat} (w : (Cond.superclass C S).before a0 Z = true) (wk : (Cond.instantiable K n).before a0 Z = true) (nn : NS Z C K) (hn : C ≠ K) : ∃ c t, Z.vm.findClass C = some c ∧ Z.vm.findClass K = some t ∧ Z.vm.assignable c t = false := by
  obtain ⟨c, t, h0, g0, n3⟩ := nn
  obtain ⟨p, k, kp, h1, h2, h3, h4, h5, -, h7⟩ := Cond.superclass_spec h0 w
  obtain ⟨t', kt, g1, g2, g5, g6, -⟩ := Cond.instantiable_spec wk
  cases g0.symm.trans g1
  have g7 : kt.isInterface = false := by simp only [Bool.or_eq_false_iff] at g6; exact g6.1
  have ne := ids_ne h0 g0 hn
  refine ⟨c, t, h0, g0, ?_⟩
  show Z.vm.assignableAux (255 + 1) c t = false
  simp [Vm.assignableAux, ne, h2, g2, h5, g5, g7, Vm.isSubclass, n3]
theorem own_ns_exa {Z : State} {h : Heap} {a : Addr} {C : String} (F : Exa Z h a C) : ∀ cell : Cell, h[a]? = some cell → cell.vm.isStatics = false := fun cell hc => by
  obtain ⟨c, _, h1, -, -, h4, -⟩ := F; cases h1.symm.trans hc; exact h4
theorem own_ns_arv {Z : State} {h : Heap} {a : Addr} {k : ClassId} {ty : FieldType} {z : Int32} {vs : List Value} {dv : Value} (F : Arv Z h a k ty z vs dv) : ∀ cell : Cell, h[a]? = some cell → cell.vm.isStatics = false := fun cell hc => by
  obtain ⟨c, A, -⟩ := F; cases A.1.symm.trans hc; exact A.plain
theorem own_sta_keep {Z : State} {h h' : Heap} {C f d : String} {v : Value} {ws : List Addr} (F : Sta Z h C f d v) (K : Keep h h' ws) (q : ∀ x ∈ ws, ∀ cell : Cell, h[x]? = some cell → cell.vm.isStatics = false) : Sta Z h' C f d v := by
  obtain ⟨cf, i, k, fl, st, cell, h1, h2, h3, h4, h5, h6, h7⟩ := F
  exact ⟨cf, i, k, fl, st, cell, h1, h2, h3, h4, K.2.1 _ _ h5 (fun hm => by rw [q _ hm _ h5] at h6; cases h6), h6, h7⟩
end Own
end Jvm.RoadKit
namespace Jvm.Pilot.@@N@@
open Jvm Jvm.ClassFile Sem Op Lib Jvm.Free Jvm.Stand Jvm.LawKit Jvm.RoadKit Bundle Jvm.Pilot.@@N@@.Jvm.D
theorem own_m (i : Nat) {d : Jvm.Cond} (h : tables_1[i]? = some d) : d ∈ tables_1 := List.mem_of_getElem? h
theorem own_eq_int {args : Array Value} {s first : State} {o : Option Outcome} {idx : List Nat} {t : Term} {k : Int32} (h : (Cond.eq t (.int k)).value args first o s idx = some true) : t.eval args first o idx s = some (.int k) := by
  obtain ⟨x, y, h1, h2, h3, h4⟩ := cmp_v (r := true) (Or.inl h)
  have e2 : y = .int k := (Option.some.inj h2).symm
  subst e2
  obtain ⟨z, rfl⟩ := h4
  have q := h
  simp only [Cond.value, h1, h2] at q
  have : z = k := by simpa using q
  rw [h1, this]
theorem own_eq_ref {args : Array Value} {s first : State} {o : Option Outcome} {idx : List Nat} {t u : Term} {a : Addr} (hu : u.eval args first o idx s = some (.ref a)) (h : (Cond.eq t u).value args first o s idx = some true) : t.eval args first o idx s = some (.ref a) := by
  obtain ⟨x, y, h1, h2, h3, h4⟩ := cmp_v (r := true) (Or.inl h)
  cases hu.symm.trans h2
  have q := h
  simp only [Cond.value, h1, h2] at q
  cases x <;> simp [Kin, Value.isRef] at h3 h4 q ⊢
  rw [h1, q]
theorem own_and3 (x : Int32) : x &&& 3 = 0 ∨ x &&& 3 = 1 ∨ x &&& 3 = 2 ∨ x &&& 3 = 3 := by
  have e : (x &&& 3).toInt = x.toInt % (2 ^ 2 : Nat) := c_mask x 3 2 (by decide) (by decide)
  simp only [← Int32.toInt_inj, Int32.reduceToInt] at e ⊢; omega

theorem own_arv {s : State} {args : Array Value} {t : Term} {a : Addr} {c : Cell} {ty : FieldType} {z : Int32} {vs : List Value} {dv : Value} (hf : Fit s) (ev : t.eval args s none [] s = some (.ref a)) (A : Arr s s.heap a c ty) (hl : (Term.length t).eval args s none [] s = some (.int z)) (hz : ¬ z < 0) (hn : z.toNatClampNeg = vs.length) (H : HasL c 0 vs) : Arv s s.heap a c.cls ty z vs dv := by
  have hA := A.fin (Vm.Alike.refl _)
  by_cases hs : c.slots.size < 2 ^ 31
  · rw [len_f ev hA hs] at hl
    exact Arv.start hf A hs (Value.int.inj (Option.some.inj hl)) hz hn H
  · simp [Term.eval, ev, hA, hs] at hl

theorem own_d_method_2_code_0 : decode method_2_code 0 = .ok (.iload_n 0, 1) := by decide +kernel
theorem own_d_method_2_code_1 : decode method_2_code 1 = .ok (.ifCond .ne 7, 3) := by decide +kernel
theorem own_d_method_2_code_4 : decode method_2_code 4 = .ok (.getstatic 7, 3) := by decide +kernel
theorem own_d_method_2_code_7 : decode method_2_code 7 = .ok (.areturn, 1) := by decide +kernel
theorem own_pn_com_example_strict_tariff_stricttariff_pricing_ColumnIsAmountPinLaw : plainName "com/example/strict_tariff/stricttariff/pricing/ColumnIsAmountPinLaw" = true := by first | (simp [plainName, overriddenIn]; done) | decide +kernel
def Q_pick_0 (Z : State) (o0 : Addr) (h0 : Heap) (n0 : Nat) (v : Option Value) (h : Heap) (L : List Loc) : Prop := v = some (.ref o0) ∧ Fr n0 L ∧ h = h0
set_option maxRecDepth 65536 in
set_option maxHeartbeats 40000000 in
theorem rm_pick_0 (l : Launch) (Z : State) (a0 : Array Value) (hw : ∀ d ∈ tables_1, d.before a0 Z = true) (ws : List Jvm.Cond) (o0 : Addr) (h0 : Heap) (n0 : Nat) (Z0 : n0 ≤ h0.size) (P0 : Sta Z h0 "com/example/strict_tariff/stricttariff/pricing/Column" "USAGE" "Lcom/example/strict_tariff/stricttariff/pricing/Column;" (.ref o0)) :
    MetFree l (⟨"com/example/strict_tariff/stricttariff/pricing/ColumnIsAmountPinLaw", "pick", "(I)Lcom/example/strict_tariff/stricttariff/pricing/Column;"⟩ : MethodName) (head1 (Jvm.Cond.code (⟨"com/example/strict_tariff/stricttariff/pricing/ColumnIsAmountPinLaw", "pick", "(I)Lcom/example/strict_tariff/stricttariff/pricing/Column;"⟩ : MethodName) method_2_code 1 (some (.object "com/example/strict_tariff/stricttariff/pricing/Column")) :: ws) ({ frames := 0, cells := 0, slots := 0, locals := 0 } : Room)) (fun aA U => aA = #[(.int (0 : Int32))] ∧ Z.Warmed39 U.vm ∧ U.heap = h0) (fun _ _ _ _ _ => True) (fun _ U o U' => ∃ v L, o = .returned v ∧ Q_pick_0 Z o0 h0 n0 v U'.heap L ∧ FrameEnd U o U' L ({ frames := 0, cells := 0, slots := 0, locals := 0 } : Room).cells ({ frames := 0, cells := 0, slots := 0, locals := 0 } : Room).slots) := by
  refine MetFree.of_bodySF (plainFor_of_name own_pn_com_example_strict_tariff_stricttariff_pricing_ColumnIsAmountPinLaw) hisR ?_
  intro p e s m args below meth c s₁ Bd hml0 hP hK
  obtain ⟨rfl, hZ, hh⟩ := hP
  have hx := Bd.exec
  have hby := Bd.bytes
  have hlk : meth.locks = false := BodyLoose.notSynchronized Bd
  have hml : c.maxLocals = 1 := hml0
  have hown : s.vm.findClass "com/example/strict_tariff/stricttariff/pricing/ColumnIsAmountPinLaw" = some m.cls := findClass_of_methodNamed Bd.named
  have hnm := (name_of_methodNamed Bd.named Bd.method).1
  have X0 : Stand p l e ({ frames := 0, cells := 0, slots := 0, locals := 0 } : Room) s m #[(.int (0 : Int32))] below meth c s₁ [] 0 0 := Stand.of_body Bd
  have e0 : s₁.heap = h0 := by rw [← hh, Bd.state]; rfl
  have N0 := Fr.nil n0
  show own_Go p e below (own_K s (Q_pick_0 Z o0 h0 n0) ({ frames := 0, cells := 0, slots := 0, locals := 0 } : Room).cells ({ frames := 0, cells := 0, slots := 0, locals := 0 } : Room).slots) (s₁.setTop (entryFrame m #[(.int (0 : Int32))] 1))
  rw [(by first | (simp [entryFrame, mkF, argsToLocals, Value.category]; done) | rfl : entryFrame m #[(.int (0 : Int32))] 1 = mkF m 0 #[.val (.int (0 : Int32))] [])]
  show own_Go p e below _ (s₁.setTop (mkF m 0 #[.val (.int (0 : Int32))] []))
  refine own_go (fun _ hr => XS.iloadN X0.here hx rfl (hb hby own_d_method_2_code_0) rfl (XS.ifNo X0.here hx rfl (hb hby own_d_method_2_code_1) rfl ((if0 _ _).trans (teq (by decide)).2) hr)) ?_
  show own_Go p e below _ (s₁.setTop (mkF m 4 #[.val (.int (0 : Int32))] []))
  obtain ⟨T1, X1, e1, st1⟩ := getS2 X0 hx hZ hown (host := "") (Or.inl (hw _ (own_m 4 rfl))) Via.refl e0 P0 (g := (mkF m 4 #[.val (.int (0 : Int32))] [])) rfl (hb hby own_d_method_2_code_4)
  refine own_go st1 ?_
  show own_Go p e below _ (T1.setTop (mkF m 7 #[.val (.int (0 : Int32))] [(.ref o0)]))
  exact own_retR X1 hx hlk Bd.returns rfl rfl (hb hby own_d_method_2_code_7) (by decide) (by decide) ⟨rfl, N0, e1⟩
theorem own_pd0 : parseMethodDescriptor "(I)Lcom/example/strict_tariff/stricttariff/pricing/Column;" = some ⟨[.int], some (.object "com/example/strict_tariff/stricttariff/pricing/Column")⟩ := by decide +kernel
theorem own_d_prog_4_method_4_code_0 : decode prog_4_method_4_code 0 = .ok (.aload_n 0, 1) := by decide +kernel
theorem own_d_prog_4_method_4_code_1 : decode prog_4_method_4_code 1 = .ok (.getfield 35, 3) := by decide +kernel
theorem own_d_prog_4_method_4_code_4 : decode prog_4_method_4_code 4 = .ok (.areturn, 1) := by decide +kernel
theorem own_pn_com_example_strict_tariff_stricttariff_pricing_Column : plainName "com/example/strict_tariff/stricttariff/pricing/Column" = true := by first | (simp [plainName, overriddenIn]; done) | decide +kernel
def Q_header_1 (Z : State) (o1 : Addr) (h0 : Heap) (n0 : Nat) (v : Option Value) (h : Heap) (L : List Loc) : Prop := v = some (.ref o1) ∧ Fr n0 L ∧ h = h0
set_option maxRecDepth 65536 in
set_option maxHeartbeats 40000000 in
theorem rm_header_1 (l : Launch) (Z : State) (a0 : Array Value) (hw : ∀ d ∈ tables_1, d.before a0 Z = true) (ws : List Jvm.Cond) (o0 : Addr) (o1 : Addr) (h0 : Heap) (n0 : Nat) (Z0 : n0 ≤ h0.size) (P0 : Fld Z h0 o0 "com/example/strict_tariff/stricttariff/pricing/Column" "header" "Ljava/lang/String;" (.ref o1)) :
    MetFree l (⟨"com/example/strict_tariff/stricttariff/pricing/Column", "header", "()Ljava/lang/String;"⟩ : MethodName) (head1 (Jvm.Cond.code (⟨"com/example/strict_tariff/stricttariff/pricing/Column", "header", "()Ljava/lang/String;"⟩ : MethodName) prog_4_method_4_code 1 (some (.object "java/lang/String")) :: ws) ({ frames := 0, cells := 0, slots := 0, locals := 0 } : Room)) (fun aA U => aA = #[(.ref o0)] ∧ Z.Warmed39 U.vm ∧ U.heap = h0) (fun _ _ _ _ _ => True) (fun _ U o U' => ∃ v L, o = .returned v ∧ Q_header_1 Z o1 h0 n0 v U'.heap L ∧ FrameEnd U o U' L ({ frames := 0, cells := 0, slots := 0, locals := 0 } : Room).cells ({ frames := 0, cells := 0, slots := 0, locals := 0 } : Room).slots) := by
  refine MetFree.of_bodySF (plainFor_of_name own_pn_com_example_strict_tariff_stricttariff_pricing_Column) hisR ?_
  intro p e s m args below meth c s₁ Bd hml0 hP hK
  obtain ⟨rfl, hZ, hh⟩ := hP
  have hx := Bd.exec
  have hby := Bd.bytes
  have hlk : meth.locks = false := BodyLoose.notSynchronized Bd
  have hml : c.maxLocals = 1 := hml0
  have hown : s.vm.findClass "com/example/strict_tariff/stricttariff/pricing/Column" = some m.cls := findClass_of_methodNamed Bd.named
  have hnm := (name_of_methodNamed Bd.named Bd.method).1
  have X0 : Stand p l e ({ frames := 0, cells := 0, slots := 0, locals := 0 } : Room) s m #[(.ref o0)] below meth c s₁ [] 0 0 := Stand.of_body Bd
  have e0 : s₁.heap = h0 := by rw [← hh, Bd.state]; rfl
  have N0 := Fr.nil n0
  show own_Go p e below (own_K s (Q_header_1 Z o1 h0 n0) ({ frames := 0, cells := 0, slots := 0, locals := 0 } : Room).cells ({ frames := 0, cells := 0, slots := 0, locals := 0 } : Room).slots) (s₁.setTop (entryFrame m #[(.ref o0)] 1))
  rw [(by first | (simp [entryFrame, mkF, argsToLocals, Value.category]; done) | rfl : entryFrame m #[(.ref o0)] 1 = mkF m 0 #[.val (.ref o0)] [])]
  show own_Go p e below _ (s₁.setTop (mkF m 0 #[.val (.ref o0)] []))
  refine own_go (fun _ hr => XS.aloadN X0.here hx rfl (hb hby own_d_prog_4_method_4_code_0) rfl rfl hr) ?_
  show own_Go p e below _ (s₁.setTop (mkF m 1 #[.val (.ref o0)] [(.ref o0)]))
  obtain ⟨T1, X1, e1, st1⟩ := getF X0 hx hZ hown (host := "") (Or.inl (hw _ (own_m 12 rfl))) Via.refl e0 P0 (g := (mkF m 1 #[.val (.ref o0)] [(.ref o0)])) rfl rfl (hb hby own_d_prog_4_method_4_code_1)
  refine own_go st1 ?_
  show own_Go p e below _ (T1.setTop (mkF m 4 #[.val (.ref o0)] [(.ref o1)]))
  exact own_retR X1 hx hlk Bd.returns rfl rfl (hb hby own_d_prog_4_method_4_code_4) (by decide) (by decide) ⟨rfl, N0, e1⟩
theorem own_pd1 : parseMethodDescriptor "()Ljava/lang/String;" = some ⟨[], some (.object "java/lang/String")⟩ := by decide +kernel
theorem own_d_method_3_code_0 : decode method_3_code 0 = .ok (.aload_n 0, 1) := by decide +kernel
theorem own_d_method_3_code_1 : decode method_3_code 1 = .ok (.invokevirtual 22, 3) := by decide +kernel
theorem own_d_jdk_42_method_54_code_0 : decode jdk_42_method_54_code 0 = .ok (.aload_n 0, 1) := by decide +kernel
theorem own_d_jdk_42_method_54_code_1 : decode jdk_42_method_54_code 1 = .ok (.getfield 9, 3) := by decide +kernel
theorem own_d_jdk_42_method_54_code_4 : decode jdk_42_method_54_code 4 = .ok (.arraylength, 1) := by decide +kernel
theorem own_d_jdk_42_method_54_code_5 : decode jdk_42_method_54_code 5 = .ok (.aload_n 0, 1) := by decide +kernel
theorem own_d_jdk_42_method_54_code_6 : decode jdk_42_method_54_code 6 = .ok (.invokevirtual 335, 3) := by decide +kernel
theorem own_d_jdk_42_method_152_code_0 : decode jdk_42_method_152_code 0 = .ok (.getstatic 38, 3) := by decide +kernel
theorem own_d_jdk_42_method_152_code_3 : decode jdk_42_method_152_code 3 = .ok (.ifCond .eq 10, 3) := by decide +kernel
theorem own_d_jdk_42_method_152_code_6 : decode jdk_42_method_152_code 6 = .ok (.aload_n 0, 1) := by decide +kernel
theorem own_d_jdk_42_method_152_code_7 : decode jdk_42_method_152_code 7 = .ok (.getfield 15, 3) := by decide +kernel
theorem own_d_jdk_42_method_152_code_10 : decode jdk_42_method_152_code 10 = .ok (.goto 4, 3) := by decide +kernel
theorem own_d_jdk_42_method_152_code_14 : decode jdk_42_method_152_code 14 = .ok (.ireturn, 1) := by decide +kernel
theorem own_pn_java_lang_String : plainName "java/lang/String" = true := by first | (simp [plainName, overriddenIn]; done) | decide +kernel
def Q_coder_2 (Z : State) (h0 : Heap) (n0 : Nat) (v : Option Value) (h : Heap) (L : List Loc) : Prop := v = some (.int (0 : Int32)) ∧ Fr n0 L ∧ h = h0
set_option maxRecDepth 65536 in
set_option maxHeartbeats 40000000 in
theorem rm_coder_2 (l : Launch) (Z : State) (a0 : Array Value) (hw : ∀ d ∈ tables_1, d.before a0 Z = true) (ws : List Jvm.Cond) (o0 : Addr) (y0 : Int32) (h0 : Heap) (n0 : Nat) (Z0 : n0 ≤ h0.size) (P0 : Sta Z h0 "java/lang/String" "COMPACT_STRINGS" "Z" (.int y0)) (P1 : Fld Z h0 o0 "java/lang/String" "coder" "B" (.int (0 : Int32))) (hb0 : ¬ (y0 = (0 : Int32))) :
    MetFree l (⟨"java/lang/String", "coder", "()B"⟩ : MethodName) (head1 (Jvm.Cond.code (⟨"java/lang/String", "coder", "()B"⟩ : MethodName) jdk_42_method_152_code 1 (some .byte) :: ws) ({ frames := 0, cells := 0, slots := 0, locals := 0 } : Room)) (fun aA U => aA = #[(.ref o0)] ∧ Z.Warmed39 U.vm ∧ U.heap = h0) (fun _ _ _ _ _ => True) (fun _ U o U' => ∃ v L, o = .returned v ∧ Q_coder_2 Z h0 n0 v U'.heap L ∧ FrameEnd U o U' L ({ frames := 0, cells := 0, slots := 0, locals := 0 } : Room).cells ({ frames := 0, cells := 0, slots := 0, locals := 0 } : Room).slots) := by
  refine MetFree.of_bodySF (plainFor_of_name own_pn_java_lang_String) hisR ?_
  intro p e s m args below meth c s₁ Bd hml0 hP hK
  obtain ⟨rfl, hZ, hh⟩ := hP
  have hx := Bd.exec
  have hby := Bd.bytes
  have hlk : meth.locks = false := BodyLoose.notSynchronized Bd
  have hml : c.maxLocals = 1 := hml0
  have hown : s.vm.findClass "java/lang/String" = some m.cls := findClass_of_methodNamed Bd.named
  have hnm := (name_of_methodNamed Bd.named Bd.method).1
  have X0 : Stand p l e ({ frames := 0, cells := 0, slots := 0, locals := 0 } : Room) s m #[(.ref o0)] below meth c s₁ [] 0 0 := Stand.of_body Bd
  have e0 : s₁.heap = h0 := by rw [← hh, Bd.state]; rfl
  have N0 := Fr.nil n0
  show own_Go p e below (own_K s (Q_coder_2 Z h0 n0) ({ frames := 0, cells := 0, slots := 0, locals := 0 } : Room).cells ({ frames := 0, cells := 0, slots := 0, locals := 0 } : Room).slots) (s₁.setTop (entryFrame m #[(.ref o0)] 1))
  rw [(by first | (simp [entryFrame, mkF, argsToLocals, Value.category]; done) | rfl : entryFrame m #[(.ref o0)] 1 = mkF m 0 #[.val (.ref o0)] [])]
  show own_Go p e below _ (s₁.setTop (mkF m 0 #[.val (.ref o0)] []))
  obtain ⟨T1, X1, e1, st1⟩ := getS2 X0 hx hZ hown (host := "") (Or.inl (hw _ (own_m 30 rfl))) Via.refl e0 P0 (g := (mkF m 0 #[.val (.ref o0)] [])) rfl (hb hby own_d_jdk_42_method_152_code_0)
  refine own_go st1 ?_
  show own_Go p e below _ (T1.setTop (mkF m 3 #[.val (.ref o0)] [(.int y0)]))
  refine own_go (fun _ hr => XS.ifNo X1.here hx rfl (hb hby own_d_jdk_42_method_152_code_3) rfl ((if0 _ _).trans (feq hb0).1) hr) ?_
  show own_Go p e below _ (T1.setTop (mkF m 6 #[.val (.ref o0)] []))
  refine own_go (fun _ hr => XS.aloadN X1.here hx rfl (hb hby own_d_jdk_42_method_152_code_6) rfl rfl hr) ?_
  show own_Go p e below _ (T1.setTop (mkF m 7 #[.val (.ref o0)] [(.ref o0)]))
  obtain ⟨T2, X2, e2, st2⟩ := getF X1 hx hZ hown (host := "") (Or.inl (hw _ (own_m 31 rfl))) Via.refl e1 P1 (g := (mkF m 7 #[.val (.ref o0)] [(.ref o0)])) rfl rfl (hb hby own_d_jdk_42_method_152_code_7)
  refine own_go st2 ?_
  show own_Go p e below _ (T2.setTop (mkF m 10 #[.val (.ref o0)] [(.int (0 : Int32))]))
  refine own_go (fun _ hr => XS.goto X2.here hx rfl (pc0 := 10) (pc' := 14) rfl (hb hby own_d_jdk_42_method_152_code_10) (by decide) (by decide) hr) ?_
  show own_Go p e below _ (T2.setTop (mkF m 14 #[.val (.ref o0)] [(.int (0 : Int32))]))
  exact own_retN X2 hx hlk Bd.returns (t := .byte) (by simp) (hb hby own_d_jdk_42_method_152_code_14) (by decide) (by decide) ⟨rfl, N0, e2⟩
theorem own_pd2 : parseMethodDescriptor "()B" = some ⟨[], some .byte⟩ := by decide +kernel
theorem own_d_jdk_42_method_54_code_9 : decode jdk_42_method_54_code 9 = .ok (.ishr, 1) := by decide +kernel
theorem own_d_jdk_42_method_54_code_10 : decode jdk_42_method_54_code 10 = .ok (.ireturn, 1) := by decide +kernel
def Q_length_3 (Z : State) (h0 : Heap) (n0 : Nat) (v : Option Value) (h : Heap) (L : List Loc) : Prop := v = some (.int (8 : Int32)) ∧ Fr n0 L ∧ h = h0
set_option maxRecDepth 65536 in
set_option maxHeartbeats 40000000 in
theorem rm_length_3 (l : Launch) (Z : State) (a0 : Array Value) (hw : ∀ d ∈ tables_1, d.before a0 Z = true) (ws : List Jvm.Cond) (o0 : Addr) (o1 : Addr) (kc0 : ClassId) (y0 : Int32) (h0 : Heap) (n0 : Nat) (Z0 : n0 ≤ h0.size) (P0 : Fld Z h0 o0 "java/lang/String" "value" "[B" (.ref o1)) (P1 : Arv Z h0 o1 kc0 .byte (8 : Int32) [(.int (117 : Int32)), (.int (115 : Int32)), (.int (97 : Int32)), (.int (103 : Int32)), (.int (101 : Int32)), (.int (95 : Int32)), (.int (109 : Int32)), (.int (51 : Int32))] (.int (0 : Int32))) (P2 : Sta Z h0 "java/lang/String" "COMPACT_STRINGS" "Z" (.int y0)) (P3 : Fld Z h0 o0 "java/lang/String" "coder" "B" (.int (0 : Int32))) (P4 : Exa Z h0 o0 "java/lang/String") (hb0 : ¬ (y0 = (0 : Int32))) :
    MetFree l (⟨"java/lang/String", "length", "()I"⟩ : MethodName) (head1 (Jvm.Cond.code (⟨"java/lang/String", "length", "()I"⟩ : MethodName) jdk_42_method_54_code 1 (some .int) :: ws) ({ frames := 1, cells := 0, slots := 0, locals := 13 } : Room)) (fun aA U => aA = #[(.ref o0)] ∧ Z.Warmed39 U.vm ∧ U.heap = h0) (fun _ _ _ _ _ => True) (fun _ U o U' => ∃ v L, o = .returned v ∧ Q_length_3 Z h0 n0 v U'.heap L ∧ FrameEnd U o U' L ({ frames := 1, cells := 0, slots := 0, locals := 13 } : Room).cells ({ frames := 1, cells := 0, slots := 0, locals := 13 } : Room).slots) := by
  refine MetFree.of_bodySF (plainFor_of_name own_pn_java_lang_String) hisR ?_
  intro p e s m args below meth c s₁ Bd hml0 hP hK
  obtain ⟨rfl, hZ, hh⟩ := hP
  have hx := Bd.exec
  have hby := Bd.bytes
  have hlk : meth.locks = false := BodyLoose.notSynchronized Bd
  have hml : c.maxLocals = 1 := hml0
  have hown : s.vm.findClass "java/lang/String" = some m.cls := findClass_of_methodNamed Bd.named
  have hnm := (name_of_methodNamed Bd.named Bd.method).1
  have X0 : Stand p l e ({ frames := 1, cells := 0, slots := 0, locals := 13 } : Room) s m #[(.ref o0)] below meth c s₁ [] 0 0 := Stand.of_body Bd
  have e0 : s₁.heap = h0 := by rw [← hh, Bd.state]; rfl
  have N0 := Fr.nil n0
  show own_Go p e below (own_K s (Q_length_3 Z h0 n0) ({ frames := 1, cells := 0, slots := 0, locals := 13 } : Room).cells ({ frames := 1, cells := 0, slots := 0, locals := 13 } : Room).slots) (s₁.setTop (entryFrame m #[(.ref o0)] 1))
  rw [(by first | (simp [entryFrame, mkF, argsToLocals, Value.category]; done) | rfl : entryFrame m #[(.ref o0)] 1 = mkF m 0 #[.val (.ref o0)] [])]
  show own_Go p e below _ (s₁.setTop (mkF m 0 #[.val (.ref o0)] []))
  refine own_go (fun _ hr => XS.aloadN X0.here hx rfl (hb hby own_d_jdk_42_method_54_code_0) rfl rfl hr) ?_
  show own_Go p e below _ (s₁.setTop (mkF m 1 #[.val (.ref o0)] [(.ref o0)]))
  obtain ⟨T1, X1, e1, st1⟩ := getF X0 hx hZ hown (host := "") (Or.inl (hw _ (own_m 23 rfl))) Via.refl e0 P0 (g := (mkF m 1 #[.val (.ref o0)] [(.ref o0)])) rfl rfl (hb hby own_d_jdk_42_method_54_code_1)
  refine own_go st1 ?_
  show own_Go p e below _ (T1.setTop (mkF m 4 #[.val (.ref o0)] [(.ref o1)]))
  refine own_go (fun _ hr => own_alen X1 hx hZ e1 P1 rfl rfl (hb hby own_d_jdk_42_method_54_code_4) (XS.aloadN X1.here hx rfl (hb hby own_d_jdk_42_method_54_code_5) rfl rfl hr)) ?_
  show own_Go p e below _ (T1.setTop (mkF m 6 #[.val (.ref o0)] [(.ref o0), (.int (8 : Int32))]))
  refine own_cv X1 hx hZ hown (notFace_of_selects (args := #[]) (mvT hZ (hw _ (own_m 28 rfl)))) (hw _ (own_m 25 rfl)) (hw _ (own_m 26 rfl)) (hw _ (own_m 28 rfl)) (hw _ (own_m 27 rfl)) (hw _ (own_m 21 rfl)) (hw _ (own_m 29 rfl)) (by decide) P4 (rm := { frames := 0, cells := 0, slots := 0, locals := 0 }) (rm_coder_2 l Z a0 hw [] o0 y0 h0 n0 Z0 P2 P3 hb0) (by decide) (W := 1) (by decide) (by decide) (by decide) e1 (by rw [hml]; rfl) (argsL := []) (lenOf own_pd2 rfl) (rest := [(.int (8 : Int32))]) rfl rfl (Nat.le_of_eq rfl) (hb hby own_d_jdk_42_method_54_code_6) ?_
  intro _ T2 L2 X2 hQ2
  obtain ⟨rfl, N2q, e2⟩ := hQ2
  have N2 := Fr.app N0 N2q
  show own_Go p e below _ (T2.setTop (mkF m 9 #[.val (.ref o0)] [(.int (0 : Int32)), (.int (8 : Int32))]))
  refine own_go (fun _ hr => XS.ishr X2.here hx rfl (hb hby own_d_jdk_42_method_54_code_9) rfl hr) ?_
  show own_Go p e below _ (T2.setTop (mkF m 10 #[.val (.ref o0)] [(.int (8 : Int32))]))
  exact own_retI X2 hx hlk Bd.returns (hb hby own_d_jdk_42_method_54_code_10) (by decide) (by decide) ⟨rfl, N2, e2⟩
theorem own_pd3 : parseMethodDescriptor "()I" = some ⟨[], some .int⟩ := by decide +kernel
theorem own_d_method_3_code_4 : decode method_3_code 4 = .ok (.istore_n 1, 1) := by decide +kernel
theorem own_d_method_3_code_5 : decode method_3_code 5 = .ok (.iload_n 1, 1) := by decide +kernel
theorem own_d_method_3_code_6 : decode method_3_code 6 = .ok (.iconst 4, 1) := by decide +kernel
theorem own_d_method_3_code_7 : decode method_3_code 7 = .ok (.if_icmp .lt 55, 3) := by decide +kernel
theorem own_d_method_3_code_10 : decode method_3_code 10 = .ok (.aload_n 0, 1) := by decide +kernel
theorem own_d_method_3_code_11 : decode method_3_code 11 = .ok (.iload_n 1, 1) := by decide +kernel
theorem own_d_method_3_code_12 : decode method_3_code 12 = .ok (.iconst 4, 1) := by decide +kernel
theorem own_d_method_3_code_13 : decode method_3_code 13 = .ok (.isub, 1) := by decide +kernel
theorem own_d_method_3_code_14 : decode method_3_code 14 = .ok (.invokevirtual 28, 3) := by decide +kernel
theorem own_d_jdk_42_method_56_code_0 : decode jdk_42_method_56_code 0 = .ok (.aload_n 0, 1) := by decide +kernel
theorem own_d_jdk_42_method_56_code_1 : decode jdk_42_method_56_code 1 = .ok (.invokevirtual 492, 3) := by decide +kernel
theorem own_d_jdk_42_method_154_code_0 : decode jdk_42_method_154_code 0 = .ok (.getstatic 38, 3) := by decide +kernel
theorem own_d_jdk_42_method_154_code_3 : decode jdk_42_method_154_code 3 = .ok (.ifCond .eq 14, 3) := by decide +kernel
theorem own_d_jdk_42_method_154_code_6 : decode jdk_42_method_154_code 6 = .ok (.aload_n 0, 1) := by decide +kernel
theorem own_d_jdk_42_method_154_code_7 : decode jdk_42_method_154_code 7 = .ok (.getfield 15, 3) := by decide +kernel
theorem own_d_jdk_42_method_154_code_10 : decode jdk_42_method_154_code 10 = .ok (.ifCond .ne 7, 3) := by decide +kernel
theorem own_d_jdk_42_method_154_code_13 : decode jdk_42_method_154_code 13 = .ok (.iconst 1, 1) := by decide +kernel
theorem own_d_jdk_42_method_154_code_14 : decode jdk_42_method_154_code 14 = .ok (.goto 4, 3) := by decide +kernel
theorem own_d_jdk_42_method_154_code_18 : decode jdk_42_method_154_code 18 = .ok (.ireturn, 1) := by decide +kernel
def Q_isLatin1_4 (Z : State) (h0 : Heap) (n0 : Nat) (v : Option Value) (h : Heap) (L : List Loc) : Prop := v = some (.int (1 : Int32)) ∧ Fr n0 L ∧ h = h0
set_option maxRecDepth 65536 in
set_option maxHeartbeats 40000000 in
theorem rm_isLatin1_4 (l : Launch) (Z : State) (a0 : Array Value) (hw : ∀ d ∈ tables_1, d.before a0 Z = true) (ws : List Jvm.Cond) (o0 : Addr) (y0 : Int32) (h0 : Heap) (n0 : Nat) (Z0 : n0 ≤ h0.size) (P0 : Sta Z h0 "java/lang/String" "COMPACT_STRINGS" "Z" (.int y0)) (P1 : Fld Z h0 o0 "java/lang/String" "coder" "B" (.int (0 : Int32))) (hb0 : ¬ (y0 = (0 : Int32))) :
    MetFree l (⟨"java/lang/String", "isLatin1", "()Z"⟩ : MethodName) (head1 (Jvm.Cond.code (⟨"java/lang/String", "isLatin1", "()Z"⟩ : MethodName) jdk_42_method_154_code 1 (some .boolean) :: ws) ({ frames := 0, cells := 0, slots := 0, locals := 0 } : Room)) (fun aA U => aA = #[(.ref o0)] ∧ Z.Warmed39 U.vm ∧ U.heap = h0) (fun _ _ _ _ _ => True) (fun _ U o U' => ∃ v L, o = .returned v ∧ Q_isLatin1_4 Z h0 n0 v U'.heap L ∧ FrameEnd U o U' L ({ frames := 0, cells := 0, slots := 0, locals := 0 } : Room).cells ({ frames := 0, cells := 0, slots := 0, locals := 0 } : Room).slots) := by
  refine MetFree.of_bodySF (plainFor_of_name own_pn_java_lang_String) hisR ?_
  intro p e s m args below meth c s₁ Bd hml0 hP hK
  obtain ⟨rfl, hZ, hh⟩ := hP
  have hx := Bd.exec
  have hby := Bd.bytes
  have hlk : meth.locks = false := BodyLoose.notSynchronized Bd
  have hml : c.maxLocals = 1 := hml0
  have hown : s.vm.findClass "java/lang/String" = some m.cls := findClass_of_methodNamed Bd.named
  have hnm := (name_of_methodNamed Bd.named Bd.method).1
  have X0 : Stand p l e ({ frames := 0, cells := 0, slots := 0, locals := 0 } : Room) s m #[(.ref o0)] below meth c s₁ [] 0 0 := Stand.of_body Bd
  have e0 : s₁.heap = h0 := by rw [← hh, Bd.state]; rfl
  have N0 := Fr.nil n0
  show own_Go p e below (own_K s (Q_isLatin1_4 Z h0 n0) ({ frames := 0, cells := 0, slots := 0, locals := 0 } : Room).cells ({ frames := 0, cells := 0, slots := 0, locals := 0 } : Room).slots) (s₁.setTop (entryFrame m #[(.ref o0)] 1))
  rw [(by first | (simp [entryFrame, mkF, argsToLocals, Value.category]; done) | rfl : entryFrame m #[(.ref o0)] 1 = mkF m 0 #[.val (.ref o0)] [])]
  show own_Go p e below _ (s₁.setTop (mkF m 0 #[.val (.ref o0)] []))
  obtain ⟨T1, X1, e1, st1⟩ := getS2 X0 hx hZ hown (host := "") (Or.inl (hw _ (own_m 30 rfl))) Via.refl e0 P0 (g := (mkF m 0 #[.val (.ref o0)] [])) rfl (hb hby own_d_jdk_42_method_154_code_0)
  refine own_go st1 ?_
  show own_Go p e below _ (T1.setTop (mkF m 3 #[.val (.ref o0)] [(.int y0)]))
  refine own_go (fun _ hr => XS.ifNo X1.here hx rfl (hb hby own_d_jdk_42_method_154_code_3) rfl ((if0 _ _).trans (feq hb0).1) hr) ?_
  show own_Go p e below _ (T1.setTop (mkF m 6 #[.val (.ref o0)] []))
  refine own_go (fun _ hr => XS.aloadN X1.here hx rfl (hb hby own_d_jdk_42_method_154_code_6) rfl rfl hr) ?_
  show own_Go p e below _ (T1.setTop (mkF m 7 #[.val (.ref o0)] [(.ref o0)]))
  obtain ⟨T2, X2, e2, st2⟩ := getF X1 hx hZ hown (host := "") (Or.inl (hw _ (own_m 31 rfl))) Via.refl e1 P1 (g := (mkF m 7 #[.val (.ref o0)] [(.ref o0)])) rfl rfl (hb hby own_d_jdk_42_method_154_code_7)
  refine own_go st2 ?_
  show own_Go p e below _ (T2.setTop (mkF m 10 #[.val (.ref o0)] [(.int (0 : Int32))]))
  refine own_go (fun _ hr => XS.ifNo X2.here hx rfl (hb hby own_d_jdk_42_method_154_code_10) rfl ((if0 _ _).trans (teq (by decide)).2) (XS.iconst X2.here hx rfl (hb hby own_d_jdk_42_method_154_code_13) (XS.goto X2.here hx rfl (pc0 := 14) (pc' := 18) rfl (hb hby own_d_jdk_42_method_154_code_14) (by decide) (by decide) hr))) ?_
  show own_Go p e below _ (T2.setTop (mkF m 18 #[.val (.ref o0)] [(.int (1 : Int32))]))
  exact own_retN X2 hx hlk Bd.returns (t := .boolean) (by simp) (hb hby own_d_jdk_42_method_154_code_18) (by decide) (by decide) ⟨rfl, N0, e2⟩
theorem own_pd4 : parseMethodDescriptor "()Z" = some ⟨[], some .boolean⟩ := by decide +kernel
theorem own_d_jdk_42_method_56_code_4 : decode jdk_42_method_56_code 4 = .ok (.ifCond .eq 12, 3) := by decide +kernel
theorem own_d_jdk_42_method_56_code_7 : decode jdk_42_method_56_code 7 = .ok (.aload_n 0, 1) := by decide +kernel
theorem own_d_jdk_42_method_56_code_8 : decode jdk_42_method_56_code 8 = .ok (.getfield 9, 3) := by decide +kernel
theorem own_d_jdk_42_method_56_code_11 : decode jdk_42_method_56_code 11 = .ok (.iload_n 1, 1) := by decide +kernel
theorem own_d_jdk_42_method_56_code_12 : decode jdk_42_method_56_code 12 = .ok (.invokestatic 495, 3) := by decide +kernel
theorem own_d_jdk_43_method_2_code_0 : decode jdk_43_method_2_code 0 = .ok (.iload_n 1, 1) := by decide +kernel
theorem own_d_jdk_43_method_2_code_1 : decode jdk_43_method_2_code 1 = .ok (.aload_n 0, 1) := by decide +kernel
theorem own_d_jdk_43_method_2_code_2 : decode jdk_43_method_2_code 2 = .ok (.arraylength, 1) := by decide +kernel
theorem own_d_jdk_43_method_2_code_3 : decode jdk_43_method_2_code 3 = .ok (.invokestatic 9, 3) := by decide +kernel
theorem own_d_jdk_42_method_155_code_0 : decode jdk_42_method_155_code 0 = .ok (.iload_n 0, 1) := by decide +kernel
theorem own_d_jdk_42_method_155_code_1 : decode jdk_42_method_155_code 1 = .ok (.iload_n 1, 1) := by decide +kernel
theorem own_d_jdk_42_method_155_code_2 : decode jdk_42_method_155_code 2 = .ok (.getstatic 1053, 3) := by decide +kernel
theorem own_d_jdk_42_method_155_code_5 : decode jdk_42_method_155_code 5 = .ok (.invokestatic 1059, 3) := by decide +kernel
theorem own_d_jdk_41_method_11_code_0 : decode jdk_41_method_11_code 0 = .ok (.iload_n 0, 1) := by decide +kernel
theorem own_d_jdk_41_method_11_code_1 : decode jdk_41_method_11_code 1 = .ok (.ifCond .lt 8, 3) := by decide +kernel
theorem own_d_jdk_41_method_11_code_4 : decode jdk_41_method_11_code 4 = .ok (.iload_n 0, 1) := by decide +kernel
theorem own_d_jdk_41_method_11_code_5 : decode jdk_41_method_11_code 5 = .ok (.iload_n 1, 1) := by decide +kernel
theorem own_d_jdk_41_method_11_code_6 : decode jdk_41_method_11_code 6 = .ok (.if_icmp .lt 10, 3) := by decide +kernel
theorem own_d_jdk_41_method_11_code_16 : decode jdk_41_method_11_code 16 = .ok (.iload_n 0, 1) := by decide +kernel
theorem own_d_jdk_41_method_11_code_17 : decode jdk_41_method_11_code 17 = .ok (.ireturn, 1) := by decide +kernel
theorem own_pn_jdk_internal_util_Preconditions : plainName "jdk/internal/util/Preconditions" = true := by first | (simp [plainName, overriddenIn]; done) | decide +kernel
def Q_checkIndex_5 (Z : State) (h0 : Heap) (n0 : Nat) (v : Option Value) (h : Heap) (L : List Loc) : Prop := v = some (.int (4 : Int32)) ∧ Fr n0 L ∧ h = h0
set_option maxRecDepth 65536 in
set_option maxHeartbeats 40000000 in
theorem rm_checkIndex_5 (l : Launch) (Z : State) (a0 : Array Value) (hw : ∀ d ∈ tables_1, d.before a0 Z = true) (ws : List Jvm.Cond) (vv0 : Value) (h0 : Heap) (n0 : Nat) (Z0 : n0 ≤ h0.size) (hvv0 : vv0.isRef = true) :
    MetFree l (⟨"jdk/internal/util/Preconditions", "checkIndex", "(IILjava/util/function/BiFunction;)I"⟩ : MethodName) (head1 (Jvm.Cond.code (⟨"jdk/internal/util/Preconditions", "checkIndex", "(IILjava/util/function/BiFunction;)I"⟩ : MethodName) jdk_41_method_11_code 3 (some .int) :: ws) ({ frames := 0, cells := 0, slots := 0, locals := 0 } : Room)) (fun aA U => aA = #[(.int (4 : Int32)), (.int (8 : Int32)), vv0] ∧ Z.Warmed39 U.vm ∧ U.heap = h0) (fun _ _ _ _ _ => True) (fun _ U o U' => ∃ v L, o = .returned v ∧ Q_checkIndex_5 Z h0 n0 v U'.heap L ∧ FrameEnd U o U' L ({ frames := 0, cells := 0, slots := 0, locals := 0 } : Room).cells ({ frames := 0, cells := 0, slots := 0, locals := 0 } : Room).slots) := by
  refine MetFree.of_bodySF (plainFor_of_name own_pn_jdk_internal_util_Preconditions) hisR ?_
  intro p e s m args below meth c s₁ Bd hml0 hP hK
  obtain ⟨rfl, hZ, hh⟩ := hP
  have hx := Bd.exec
  have hby := Bd.bytes
  have hlk : meth.locks = false := BodyLoose.notSynchronized Bd
  have hml : c.maxLocals = 3 := hml0
  have hown : s.vm.findClass "jdk/internal/util/Preconditions" = some m.cls := findClass_of_methodNamed Bd.named
  have hnm := (name_of_methodNamed Bd.named Bd.method).1
  have X0 : Stand p l e ({ frames := 0, cells := 0, slots := 0, locals := 0 } : Room) s m #[(.int (4 : Int32)), (.int (8 : Int32)), vv0] below meth c s₁ [] 0 0 := Stand.of_body Bd
  have e0 : s₁.heap = h0 := by rw [← hh, Bd.state]; rfl
  have N0 := Fr.nil n0
  show own_Go p e below (own_K s (Q_checkIndex_5 Z h0 n0) ({ frames := 0, cells := 0, slots := 0, locals := 0 } : Room).cells ({ frames := 0, cells := 0, slots := 0, locals := 0 } : Room).slots) (s₁.setTop (entryFrame m #[(.int (4 : Int32)), (.int (8 : Int32)), vv0] 3))
  rw [(by first | (simp [entryFrame, mkF, argsToLocals, Value.category]; done) | (have q := hvv0; revert q; cases vv0 <;> simp [entryFrame, mkF, argsToLocals, Value.category, Value.isRef]) | rfl : entryFrame m #[(.int (4 : Int32)), (.int (8 : Int32)), vv0] 3 = mkF m 0 #[.val (.int (4 : Int32)), .val (.int (8 : Int32)), .val vv0] [])]
  show own_Go p e below _ (s₁.setTop (mkF m 0 #[.val (.int (4 : Int32)), .val (.int (8 : Int32)), .val vv0] []))
  refine own_go (fun _ hr => XS.iloadN X0.here hx rfl (hb hby own_d_jdk_41_method_11_code_0) rfl (XS.ifNo X0.here hx rfl (hb hby own_d_jdk_41_method_11_code_1) rfl ((if0 _ _).trans (flt (by decide)).1) (XS.iloadN X0.here hx rfl (hb hby own_d_jdk_41_method_11_code_4) rfl (XS.iloadN X0.here hx rfl (hb hby own_d_jdk_41_method_11_code_5) rfl (XS.icmpYes X0.here hx rfl (pc0 := 6) (pc' := 16) rfl (hb hby own_d_jdk_41_method_11_code_6) rfl (tlt (by decide)).1 (by decide) (by decide) (XS.iloadN X0.here hx rfl (hb hby own_d_jdk_41_method_11_code_16) rfl hr)))))) ?_
  show own_Go p e below _ (s₁.setTop (mkF m 17 #[.val (.int (4 : Int32)), .val (.int (8 : Int32)), .val vv0] [(.int (4 : Int32))]))
  exact own_retI X0 hx hlk Bd.returns (hb hby own_d_jdk_41_method_11_code_17) (by decide) (by decide) ⟨rfl, N0, e0⟩
theorem own_pd5 : parseMethodDescriptor "(IILjava/util/function/BiFunction;)I" = some ⟨[.int, .int, (.object "java/util/function/BiFunction")], some .int⟩ := by decide +kernel
theorem own_d_jdk_42_method_155_code_8 : decode jdk_42_method_155_code 8 = .ok (.pop, 1) := by decide +kernel
theorem own_d_jdk_42_method_155_code_9 : decode jdk_42_method_155_code 9 = .ok (.return_, 1) := by decide +kernel
def Q_checkIndex_6 (Z : State) (h0 : Heap) (n0 : Nat) (v : Option Value) (h : Heap) (L : List Loc) : Prop := v = none ∧ Fr n0 L ∧ h = h0
set_option maxRecDepth 65536 in
set_option maxHeartbeats 40000000 in
theorem rm_checkIndex_6 (l : Launch) (Z : State) (a0 : Array Value) (hw : ∀ d ∈ tables_1, d.before a0 Z = true) (ws : List Jvm.Cond) (vv0 : Value) (h0 : Heap) (n0 : Nat) (Z0 : n0 ≤ h0.size) (P0 : Sta Z h0 "jdk/internal/util/Preconditions" "SIOOBE_FORMATTER" "Ljava/util/function/BiFunction;" vv0) (hvv0 : vv0.isRef = true) :
    MetFree l (⟨"java/lang/String", "checkIndex", "(II)V"⟩ : MethodName) (head1 (Jvm.Cond.code (⟨"java/lang/String", "checkIndex", "(II)V"⟩ : MethodName) jdk_42_method_155_code 2 none :: ws) ({ frames := 1, cells := 0, slots := 0, locals := 14 } : Room)) (fun aA U => aA = #[(.int (4 : Int32)), (.int (8 : Int32))] ∧ Z.Warmed39 U.vm ∧ U.heap = h0) (fun _ _ _ _ _ => True) (fun _ U o U' => ∃ v L, o = .returned v ∧ Q_checkIndex_6 Z h0 n0 v U'.heap L ∧ FrameEnd U o U' L ({ frames := 1, cells := 0, slots := 0, locals := 14 } : Room).cells ({ frames := 1, cells := 0, slots := 0, locals := 14 } : Room).slots) := by
  refine MetFree.of_bodySF (plainFor_of_name own_pn_java_lang_String) hisR ?_
  intro p e s m args below meth c s₁ Bd hml0 hP hK
  obtain ⟨rfl, hZ, hh⟩ := hP
  have hx := Bd.exec
  have hby := Bd.bytes
  have hlk : meth.locks = false := BodyLoose.notSynchronized Bd
  have hml : c.maxLocals = 2 := hml0
  have hown : s.vm.findClass "java/lang/String" = some m.cls := findClass_of_methodNamed Bd.named
  have hnm := (name_of_methodNamed Bd.named Bd.method).1
  have X0 : Stand p l e ({ frames := 1, cells := 0, slots := 0, locals := 14 } : Room) s m #[(.int (4 : Int32)), (.int (8 : Int32))] below meth c s₁ [] 0 0 := Stand.of_body Bd
  have e0 : s₁.heap = h0 := by rw [← hh, Bd.state]; rfl
  have N0 := Fr.nil n0
  show own_Go p e below (own_K s (Q_checkIndex_6 Z h0 n0) ({ frames := 1, cells := 0, slots := 0, locals := 14 } : Room).cells ({ frames := 1, cells := 0, slots := 0, locals := 14 } : Room).slots) (s₁.setTop (entryFrame m #[(.int (4 : Int32)), (.int (8 : Int32))] 2))
  rw [(by first | (simp [entryFrame, mkF, argsToLocals, Value.category]; done) | rfl : entryFrame m #[(.int (4 : Int32)), (.int (8 : Int32))] 2 = mkF m 0 #[.val (.int (4 : Int32)), .val (.int (8 : Int32))] [])]
  show own_Go p e below _ (s₁.setTop (mkF m 0 #[.val (.int (4 : Int32)), .val (.int (8 : Int32))] []))
  refine own_go (fun _ hr => XS.iloadN X0.here hx rfl (hb hby own_d_jdk_42_method_155_code_0) rfl (XS.iloadN X0.here hx rfl (hb hby own_d_jdk_42_method_155_code_1) rfl hr)) ?_
  show own_Go p e below _ (s₁.setTop (mkF m 2 #[.val (.int (4 : Int32)), .val (.int (8 : Int32))] [(.int (8 : Int32)), (.int (4 : Int32))]))
  obtain ⟨T1, X1, e1, st1⟩ := getS2 X0 hx hZ hown (host := "") (Or.inl (hw _ (own_m 50 rfl))) Via.refl e0 P0 (g := (mkF m 2 #[.val (.int (4 : Int32)), .val (.int (8 : Int32))] [(.int (8 : Int32)), (.int (4 : Int32))])) rfl (hb hby own_d_jdk_42_method_155_code_2)
  refine own_go st1 ?_
  show own_Go p e below _ (T1.setTop (mkF m 5 #[.val (.int (4 : Int32)), .val (.int (8 : Int32))] [vv0, (.int (8 : Int32)), (.int (4 : Int32))]))
  refine own_cs X1 hx hZ hown (hw _ (own_m 52 rfl)) (hw _ (own_m 53 rfl)) (hw _ (own_m 51 rfl)) (hw _ (own_m 54 rfl)) (by decide) (rm := { frames := 0, cells := 0, slots := 0, locals := 0 }) (rm_checkIndex_5 l Z a0 hw [] vv0 h0 n0 Z0 hvv0) (by decide) (W := 0) (by decide) (by decide) (by decide) e1 (by rw [hml]; rfl) (argsL := [(.int (4 : Int32)), (.int (8 : Int32)), vv0]) (lenOf own_pd5 rfl) (rest := []) rfl rfl (Nat.le_of_eq rfl) (hb hby own_d_jdk_42_method_155_code_5) ?_
  intro _ T2 L2 X2 hQ2
  obtain ⟨rfl, N2q, e2⟩ := hQ2
  have N2 := Fr.app N0 N2q
  show own_Go p e below _ (T2.setTop (mkF m 8 #[.val (.int (4 : Int32)), .val (.int (8 : Int32))] [(.int (4 : Int32))]))
  refine own_go (fun _ hr => XS.pop X2.here hx rfl (hb hby own_d_jdk_42_method_155_code_8) rfl rfl hr) ?_
  show own_Go p e below _ (T2.setTop (mkF m 9 #[.val (.int (4 : Int32)), .val (.int (8 : Int32))] []))
  exact own_ret0 X2 hx hlk Bd.returns (hb hby own_d_jdk_42_method_155_code_9) (by decide) (by decide) ⟨rfl, N2, e2⟩
theorem own_pd6 : parseMethodDescriptor "(II)V" = some ⟨[.int, .int], none⟩ := by decide +kernel
theorem own_d_jdk_43_method_2_code_6 : decode jdk_43_method_2_code 6 = .ok (.aload_n 0, 1) := by decide +kernel
theorem own_d_jdk_43_method_2_code_7 : decode jdk_43_method_2_code 7 = .ok (.iload_n 1, 1) := by decide +kernel
theorem own_d_jdk_43_method_2_code_8 : decode jdk_43_method_2_code 8 = .ok (.baload, 1) := by decide +kernel
theorem own_d_jdk_43_method_2_code_9 : decode jdk_43_method_2_code 9 = .ok (.sipush 255, 3) := by decide +kernel
theorem own_d_jdk_43_method_2_code_12 : decode jdk_43_method_2_code 12 = .ok (.iand, 1) := by decide +kernel
theorem own_d_jdk_43_method_2_code_13 : decode jdk_43_method_2_code 13 = .ok (.i2c, 1) := by decide +kernel
theorem own_d_jdk_43_method_2_code_14 : decode jdk_43_method_2_code 14 = .ok (.ireturn, 1) := by decide +kernel
theorem own_pn_java_lang_StringLatin1 : plainName "java/lang/StringLatin1" = true := by first | (simp [plainName, overriddenIn]; done) | decide +kernel
def Q_charAt_7 (Z : State) (h0 : Heap) (n0 : Nat) (v : Option Value) (h : Heap) (L : List Loc) : Prop := v = some (.int (101 : Int32)) ∧ Fr n0 L ∧ h = h0
set_option maxRecDepth 65536 in
set_option maxHeartbeats 40000000 in
theorem rm_charAt_7 (l : Launch) (Z : State) (a0 : Array Value) (hw : ∀ d ∈ tables_1, d.before a0 Z = true) (ws : List Jvm.Cond) (o0 : Addr) (kc0 : ClassId) (vv0 : Value) (h0 : Heap) (n0 : Nat) (Z0 : n0 ≤ h0.size) (P0 : Arv Z h0 o0 kc0 .byte (8 : Int32) [(.int (117 : Int32)), (.int (115 : Int32)), (.int (97 : Int32)), (.int (103 : Int32)), (.int (101 : Int32)), (.int (95 : Int32)), (.int (109 : Int32)), (.int (51 : Int32))] (.int (0 : Int32))) (P1 : Sta Z h0 "jdk/internal/util/Preconditions" "SIOOBE_FORMATTER" "Ljava/util/function/BiFunction;" vv0) (hvv0 : vv0.isRef = true) :
    MetFree l (⟨"java/lang/StringLatin1", "charAt", "([BI)C"⟩ : MethodName) (head1 (Jvm.Cond.code (⟨"java/lang/StringLatin1", "charAt", "([BI)C"⟩ : MethodName) jdk_43_method_2_code 2 (some .char) :: ws) ({ frames := 2, cells := 0, slots := 0, locals := 27 } : Room)) (fun aA U => aA = #[(.ref o0), (.int (4 : Int32))] ∧ Z.Warmed39 U.vm ∧ U.heap = h0) (fun _ _ _ _ _ => True) (fun _ U o U' => ∃ v L, o = .returned v ∧ Q_charAt_7 Z h0 n0 v U'.heap L ∧ FrameEnd U o U' L ({ frames := 2, cells := 0, slots := 0, locals := 27 } : Room).cells ({ frames := 2, cells := 0, slots := 0, locals := 27 } : Room).slots) := by
  refine MetFree.of_bodySF (plainFor_of_name own_pn_java_lang_StringLatin1) hisR ?_
  intro p e s m args below meth c s₁ Bd hml0 hP hK
  obtain ⟨rfl, hZ, hh⟩ := hP
  have hx := Bd.exec
  have hby := Bd.bytes
  have hlk : meth.locks = false := BodyLoose.notSynchronized Bd
  have hml : c.maxLocals = 2 := hml0
  have hown : s.vm.findClass "java/lang/StringLatin1" = some m.cls := findClass_of_methodNamed Bd.named
  have hnm := (name_of_methodNamed Bd.named Bd.method).1
  have X0 : Stand p l e ({ frames := 2, cells := 0, slots := 0, locals := 27 } : Room) s m #[(.ref o0), (.int (4 : Int32))] below meth c s₁ [] 0 0 := Stand.of_body Bd
  have e0 : s₁.heap = h0 := by rw [← hh, Bd.state]; rfl
  have N0 := Fr.nil n0
  show own_Go p e below (own_K s (Q_charAt_7 Z h0 n0) ({ frames := 2, cells := 0, slots := 0, locals := 27 } : Room).cells ({ frames := 2, cells := 0, slots := 0, locals := 27 } : Room).slots) (s₁.setTop (entryFrame m #[(.ref o0), (.int (4 : Int32))] 2))
  rw [(by first | (simp [entryFrame, mkF, argsToLocals, Value.category]; done) | rfl : entryFrame m #[(.ref o0), (.int (4 : Int32))] 2 = mkF m 0 #[.val (.ref o0), .val (.int (4 : Int32))] [])]
  show own_Go p e below _ (s₁.setTop (mkF m 0 #[.val (.ref o0), .val (.int (4 : Int32))] []))
  refine own_go (fun _ hr => XS.iloadN X0.here hx rfl (hb hby own_d_jdk_43_method_2_code_0) rfl (XS.aloadN X0.here hx rfl (hb hby own_d_jdk_43_method_2_code_1) rfl rfl (own_alen X0 hx hZ e0 P0 rfl rfl (hb hby own_d_jdk_43_method_2_code_2) hr))) ?_
  show own_Go p e below _ (s₁.setTop (mkF m 3 #[.val (.ref o0), .val (.int (4 : Int32))] [(.int (8 : Int32)), (.int (4 : Int32))]))
  refine own_cs X0 hx hZ hown (hw _ (own_m 47 rfl)) (hw _ (own_m 48 rfl)) (hw _ (own_m 21 rfl)) (hw _ (own_m 49 rfl)) (by decide) (rm := { frames := 1, cells := 0, slots := 0, locals := 14 }) (rm_checkIndex_6 l Z a0 hw [] vv0 h0 n0 Z0 P1 hvv0) (by decide) (W := 0) (by decide) (by decide) (by decide) e0 (by rw [hml]; rfl) (argsL := [(.int (4 : Int32)), (.int (8 : Int32))]) (lenOf own_pd6 rfl) (rest := []) rfl rfl (Nat.le_of_eq rfl) (hb hby own_d_jdk_43_method_2_code_3) ?_
  intro _ T1 L1 X1 hQ1
  obtain ⟨rfl, N1q, e1⟩ := hQ1
  have N1 := Fr.app N0 N1q
  show own_Go p e below _ (T1.setTop (mkF m 6 #[.val (.ref o0), .val (.int (4 : Int32))] []))
  refine own_go (fun _ hr => XS.aloadN X1.here hx rfl (hb hby own_d_jdk_43_method_2_code_6) rfl rfl (XS.iloadN X1.here hx rfl (hb hby own_d_jdk_43_method_2_code_7) rfl (own_baload X1 hx hZ e1 P0 (4 : Int32) (.int (101 : Int32)) ⟨by decide, by decide⟩ rfl rfl rfl (hb hby own_d_jdk_43_method_2_code_8) (XS.sipush X1.here hx rfl (hb hby own_d_jdk_43_method_2_code_9) (XS.iand X1.here hx rfl (hb hby own_d_jdk_43_method_2_code_12) rfl (XS.i2c X1.here hx rfl (hb hby own_d_jdk_43_method_2_code_13) rfl hr)))))) ?_
  show own_Go p e below _ (T1.setTop (mkF m 14 #[.val (.ref o0), .val (.int (4 : Int32))] [(.int (101 : Int32))]))
  exact own_retN X1 hx hlk Bd.returns (t := .char) (by simp) (hb hby own_d_jdk_43_method_2_code_14) (by decide) (by decide) ⟨rfl, N1, e1⟩
theorem own_pd7 : parseMethodDescriptor "([BI)C" = some ⟨[(.array .byte), .int], some .char⟩ := by decide +kernel
theorem own_d_jdk_42_method_56_code_15 : decode jdk_42_method_56_code 15 = .ok (.ireturn, 1) := by decide +kernel
def Q_charAt_8 (Z : State) (h0 : Heap) (n0 : Nat) (v : Option Value) (h : Heap) (L : List Loc) : Prop := v = some (.int (101 : Int32)) ∧ Fr n0 L ∧ h = h0
set_option maxRecDepth 65536 in
set_option maxHeartbeats 40000000 in
theorem rm_charAt_8 (l : Launch) (Z : State) (a0 : Array Value) (hw : ∀ d ∈ tables_1, d.before a0 Z = true) (ws : List Jvm.Cond) (o0 : Addr) (y0 : Int32) (o1 : Addr) (kc0 : ClassId) (vv0 : Value) (h0 : Heap) (n0 : Nat) (Z0 : n0 ≤ h0.size) (P0 : Sta Z h0 "java/lang/String" "COMPACT_STRINGS" "Z" (.int y0)) (P1 : Fld Z h0 o0 "java/lang/String" "coder" "B" (.int (0 : Int32))) (P2 : Exa Z h0 o0 "java/lang/String") (P3 : Fld Z h0 o0 "java/lang/String" "value" "[B" (.ref o1)) (P4 : Arv Z h0 o1 kc0 .byte (8 : Int32) [(.int (117 : Int32)), (.int (115 : Int32)), (.int (97 : Int32)), (.int (103 : Int32)), (.int (101 : Int32)), (.int (95 : Int32)), (.int (109 : Int32)), (.int (51 : Int32))] (.int (0 : Int32))) (P5 : Sta Z h0 "jdk/internal/util/Preconditions" "SIOOBE_FORMATTER" "Ljava/util/function/BiFunction;" vv0) (hvv0 : vv0.isRef = true) (hb0 : ¬ (y0 = (0 : Int32))) :
    MetFree l (⟨"java/lang/String", "charAt", "(I)C"⟩ : MethodName) (head1 (Jvm.Cond.code (⟨"java/lang/String", "charAt", "(I)C"⟩ : MethodName) jdk_42_method_56_code 2 (some .char) :: ws) ({ frames := 3, cells := 0, slots := 0, locals := 40 } : Room)) (fun aA U => aA = #[(.ref o0), (.int (4 : Int32))] ∧ Z.Warmed39 U.vm ∧ U.heap = h0) (fun _ _ _ _ _ => True) (fun _ U o U' => ∃ v L, o = .returned v ∧ Q_charAt_8 Z h0 n0 v U'.heap L ∧ FrameEnd U o U' L ({ frames := 3, cells := 0, slots := 0, locals := 40 } : Room).cells ({ frames := 3, cells := 0, slots := 0, locals := 40 } : Room).slots) := by
  refine MetFree.of_bodySF (plainFor_of_name own_pn_java_lang_String) hisR ?_
  intro p e s m args below meth c s₁ Bd hml0 hP hK
  obtain ⟨rfl, hZ, hh⟩ := hP
  have hx := Bd.exec
  have hby := Bd.bytes
  have hlk : meth.locks = false := BodyLoose.notSynchronized Bd
  have hml : c.maxLocals = 2 := hml0
  have hown : s.vm.findClass "java/lang/String" = some m.cls := findClass_of_methodNamed Bd.named
  have hnm := (name_of_methodNamed Bd.named Bd.method).1
  have X0 : Stand p l e ({ frames := 3, cells := 0, slots := 0, locals := 40 } : Room) s m #[(.ref o0), (.int (4 : Int32))] below meth c s₁ [] 0 0 := Stand.of_body Bd
  have e0 : s₁.heap = h0 := by rw [← hh, Bd.state]; rfl
  have N0 := Fr.nil n0
  show own_Go p e below (own_K s (Q_charAt_8 Z h0 n0) ({ frames := 3, cells := 0, slots := 0, locals := 40 } : Room).cells ({ frames := 3, cells := 0, slots := 0, locals := 40 } : Room).slots) (s₁.setTop (entryFrame m #[(.ref o0), (.int (4 : Int32))] 2))
  rw [(by first | (simp [entryFrame, mkF, argsToLocals, Value.category]; done) | rfl : entryFrame m #[(.ref o0), (.int (4 : Int32))] 2 = mkF m 0 #[.val (.ref o0), .val (.int (4 : Int32))] [])]
  show own_Go p e below _ (s₁.setTop (mkF m 0 #[.val (.ref o0), .val (.int (4 : Int32))] []))
  refine own_go (fun _ hr => XS.aloadN X0.here hx rfl (hb hby own_d_jdk_42_method_56_code_0) rfl rfl hr) ?_
  show own_Go p e below _ (s₁.setTop (mkF m 1 #[.val (.ref o0), .val (.int (4 : Int32))] [(.ref o0)]))
  refine own_cv X0 hx hZ hown (notFace_of_selects (args := #[]) (mvT hZ (hw _ (own_m 41 rfl)))) (hw _ (own_m 38 rfl)) (hw _ (own_m 39 rfl)) (hw _ (own_m 41 rfl)) (hw _ (own_m 40 rfl)) (hw _ (own_m 21 rfl)) (hw _ (own_m 42 rfl)) (by decide) P2 (rm := { frames := 0, cells := 0, slots := 0, locals := 0 }) (rm_isLatin1_4 l Z a0 hw [] o0 y0 h0 n0 Z0 P0 P1 hb0) (by decide) (W := 0) (by decide) (by decide) (by decide) e0 (by rw [hml]; rfl) (argsL := []) (lenOf own_pd4 rfl) (rest := []) rfl rfl (Nat.le_of_eq rfl) (hb hby own_d_jdk_42_method_56_code_1) ?_
  intro _ T1 L1 X1 hQ1
  obtain ⟨rfl, N1q, e1⟩ := hQ1
  have N1 := Fr.app N0 N1q
  show own_Go p e below _ (T1.setTop (mkF m 4 #[.val (.ref o0), .val (.int (4 : Int32))] [(.int (1 : Int32))]))
  refine own_go (fun _ hr => XS.ifNo X1.here hx rfl (hb hby own_d_jdk_42_method_56_code_4) rfl ((if0 _ _).trans (feq (by decide)).1) (XS.aloadN X1.here hx rfl (hb hby own_d_jdk_42_method_56_code_7) rfl rfl hr)) ?_
  show own_Go p e below _ (T1.setTop (mkF m 8 #[.val (.ref o0), .val (.int (4 : Int32))] [(.ref o0)]))
  obtain ⟨T2, X2, e2, st2⟩ := getF X1 hx hZ hown (host := "") (Or.inl (hw _ (own_m 23 rfl))) Via.refl e1 P3 (g := (mkF m 8 #[.val (.ref o0), .val (.int (4 : Int32))] [(.ref o0)])) rfl rfl (hb hby own_d_jdk_42_method_56_code_8)
  refine own_go st2 ?_
  show own_Go p e below _ (T2.setTop (mkF m 11 #[.val (.ref o0), .val (.int (4 : Int32))] [(.ref o1)]))
  refine own_go (fun _ hr => XS.iloadN X2.here hx rfl (hb hby own_d_jdk_42_method_56_code_11) rfl hr) ?_
  show own_Go p e below _ (T2.setTop (mkF m 12 #[.val (.ref o0), .val (.int (4 : Int32))] [(.int (4 : Int32)), (.ref o1)]))
  refine own_cs X2 hx hZ hown (hw _ (own_m 43 rfl)) (hw _ (own_m 44 rfl)) (hw _ (own_m 45 rfl)) (hw _ (own_m 46 rfl)) (by decide) (rm := { frames := 2, cells := 0, slots := 0, locals := 27 }) (rm_charAt_7 l Z a0 hw [] o1 kc0 vv0 h0 n0 Z0 P4 P5 hvv0) (by decide) (W := 0) (by decide) (by decide) (by decide) e2 (by rw [hml]; rfl) (argsL := [(.ref o1), (.int (4 : Int32))]) (lenOf own_pd7 rfl) (rest := []) rfl rfl (Nat.le_of_eq rfl) (hb hby own_d_jdk_42_method_56_code_12) ?_
  intro _ T3 L3 X3 hQ3
  obtain ⟨rfl, N3q, e3⟩ := hQ3
  have N3 := Fr.app N1 N3q
  show own_Go p e below _ (T3.setTop (mkF m 15 #[.val (.ref o0), .val (.int (4 : Int32))] [(.int (101 : Int32))]))
  exact own_retN X3 hx hlk Bd.returns (t := .char) (by simp) (hb hby own_d_jdk_42_method_56_code_15) (by decide) (by decide) ⟨rfl, N3, e3⟩
theorem own_pd8 : parseMethodDescriptor "(I)C" = some ⟨[.int], some .char⟩ := by decide +kernel
theorem own_d_method_3_code_17 : decode method_3_code 17 = .ok (.bipush 95, 2) := by decide +kernel
theorem own_d_method_3_code_19 : decode method_3_code 19 = .ok (.if_icmp .ne 43, 3) := by decide +kernel
theorem own_d_method_3_code_62 : decode method_3_code 62 = .ok (.iconst 0, 1) := by decide +kernel
theorem own_d_method_3_code_63 : decode method_3_code 63 = .ok (.ireturn, 1) := by decide +kernel
def Q_endsInYen_9 (Z : State) (h0 : Heap) (n0 : Nat) (v : Option Value) (h : Heap) (L : List Loc) : Prop := v = some (.int (0 : Int32)) ∧ Fr n0 L ∧ h = h0
set_option maxRecDepth 65536 in
set_option maxHeartbeats 40000000 in
theorem rm_endsInYen_9 (l : Launch) (Z : State) (a0 : Array Value) (hw : ∀ d ∈ tables_1, d.before a0 Z = true) (ws : List Jvm.Cond) (o0 : Addr) (o1 : Addr) (kc0 : ClassId) (y0 : Int32) (vv0 : Value) (h0 : Heap) (n0 : Nat) (Z0 : n0 ≤ h0.size) (P0 : Fld Z h0 o0 "java/lang/String" "value" "[B" (.ref o1)) (P1 : Arv Z h0 o1 kc0 .byte (8 : Int32) [(.int (117 : Int32)), (.int (115 : Int32)), (.int (97 : Int32)), (.int (103 : Int32)), (.int (101 : Int32)), (.int (95 : Int32)), (.int (109 : Int32)), (.int (51 : Int32))] (.int (0 : Int32))) (P2 : Sta Z h0 "java/lang/String" "COMPACT_STRINGS" "Z" (.int y0)) (P3 : Fld Z h0 o0 "java/lang/String" "coder" "B" (.int (0 : Int32))) (P4 : Exa Z h0 o0 "java/lang/String") (P5 : Sta Z h0 "jdk/internal/util/Preconditions" "SIOOBE_FORMATTER" "Ljava/util/function/BiFunction;" vv0) (hvv0 : vv0.isRef = true) (hb0 : ¬ (y0 = (0 : Int32))) :
    MetFree l (⟨"com/example/strict_tariff/stricttariff/pricing/ColumnIsAmountPinLaw", "endsInYen", "(Ljava/lang/String;)Z"⟩ : MethodName) (head1 (Jvm.Cond.code (⟨"com/example/strict_tariff/stricttariff/pricing/ColumnIsAmountPinLaw", "endsInYen", "(Ljava/lang/String;)Z"⟩ : MethodName) method_3_code 2 (some .boolean) :: ws) ({ frames := 4, cells := 0, slots := 0, locals := 53 } : Room)) (fun aA U => aA = #[(.ref o0)] ∧ Z.Warmed39 U.vm ∧ U.heap = h0) (fun _ _ _ _ _ => True) (fun _ U o U' => ∃ v L, o = .returned v ∧ Q_endsInYen_9 Z h0 n0 v U'.heap L ∧ FrameEnd U o U' L ({ frames := 4, cells := 0, slots := 0, locals := 53 } : Room).cells ({ frames := 4, cells := 0, slots := 0, locals := 53 } : Room).slots) := by
  refine MetFree.of_bodySF (plainFor_of_name own_pn_com_example_strict_tariff_stricttariff_pricing_ColumnIsAmountPinLaw) hisR ?_
  intro p e s m args below meth c s₁ Bd hml0 hP hK
  obtain ⟨rfl, hZ, hh⟩ := hP
  have hx := Bd.exec
  have hby := Bd.bytes
  have hlk : meth.locks = false := BodyLoose.notSynchronized Bd
  have hml : c.maxLocals = 2 := hml0
  have hown : s.vm.findClass "com/example/strict_tariff/stricttariff/pricing/ColumnIsAmountPinLaw" = some m.cls := findClass_of_methodNamed Bd.named
  have hnm := (name_of_methodNamed Bd.named Bd.method).1
  have X0 : Stand p l e ({ frames := 4, cells := 0, slots := 0, locals := 53 } : Room) s m #[(.ref o0)] below meth c s₁ [] 0 0 := Stand.of_body Bd
  have e0 : s₁.heap = h0 := by rw [← hh, Bd.state]; rfl
  have N0 := Fr.nil n0
  show own_Go p e below (own_K s (Q_endsInYen_9 Z h0 n0) ({ frames := 4, cells := 0, slots := 0, locals := 53 } : Room).cells ({ frames := 4, cells := 0, slots := 0, locals := 53 } : Room).slots) (s₁.setTop (entryFrame m #[(.ref o0)] 2))
  rw [(by first | (simp [entryFrame, mkF, argsToLocals, Value.category]; done) | rfl : entryFrame m #[(.ref o0)] 2 = mkF m 0 #[.val (.ref o0), .unset] [])]
  show own_Go p e below _ (s₁.setTop (mkF m 0 #[.val (.ref o0), .unset] []))
  refine own_go (fun _ hr => XS.aloadN X0.here hx rfl (hb hby own_d_method_3_code_0) rfl rfl hr) ?_
  show own_Go p e below _ (s₁.setTop (mkF m 1 #[.val (.ref o0), .unset] [(.ref o0)]))
  refine own_cv X0 hx hZ hown (notFace_of_selects (args := #[]) (mvT hZ (hw _ (own_m 20 rfl)))) (hw _ (own_m 17 rfl)) (hw _ (own_m 18 rfl)) (hw _ (own_m 20 rfl)) (hw _ (own_m 19 rfl)) (hw _ (own_m 21 rfl)) (hw _ (own_m 22 rfl)) (by decide) P4 (rm := { frames := 1, cells := 0, slots := 0, locals := 13 }) (rm_length_3 l Z a0 hw [] o0 o1 kc0 y0 h0 n0 Z0 P0 P1 P2 P3 P4 hb0) (by decide) (W := 0) (by decide) (by decide) (by decide) e0 (by rw [hml]; rfl) (argsL := []) (lenOf own_pd3 rfl) (rest := []) rfl rfl (Nat.le_of_eq rfl) (hb hby own_d_method_3_code_1) ?_
  intro _ T1 L1 X1 hQ1
  obtain ⟨rfl, N1q, e1⟩ := hQ1
  have N1 := Fr.app N0 N1q
  show own_Go p e below _ (T1.setTop (mkF m 4 #[.val (.ref o0), .unset] [(.int (8 : Int32))]))
  refine own_go (fun _ hr => XS.istoreN X1.here hx rfl (hb hby own_d_method_3_code_4) rfl (l' := #[.val (.ref o0), .val (.int (8 : Int32))]) rfl (XS.iloadN X1.here hx rfl (hb hby own_d_method_3_code_5) rfl (XS.iconst X1.here hx rfl (hb hby own_d_method_3_code_6) (XS.icmpNo X1.here hx rfl (hb hby own_d_method_3_code_7) rfl (flt (by decide)).1 (XS.aloadN X1.here hx rfl (hb hby own_d_method_3_code_10) rfl rfl (XS.iloadN X1.here hx rfl (hb hby own_d_method_3_code_11) rfl (XS.iconst X1.here hx rfl (hb hby own_d_method_3_code_12) (XS.isub X1.here hx rfl (hb hby own_d_method_3_code_13) rfl hr)))))))) ?_
  show own_Go p e below _ (T1.setTop (mkF m 14 #[.val (.ref o0), .val (.int (8 : Int32))] [(.int (4 : Int32)), (.ref o0)]))
  refine own_cv X1 hx hZ hown (notFace_of_selects (args := #[]) (mvT hZ (hw _ (own_m 36 rfl)))) (hw _ (own_m 33 rfl)) (hw _ (own_m 34 rfl)) (hw _ (own_m 36 rfl)) (hw _ (own_m 35 rfl)) (hw _ (own_m 21 rfl)) (hw _ (own_m 37 rfl)) (by decide) P4 (rm := { frames := 3, cells := 0, slots := 0, locals := 40 }) (rm_charAt_8 l Z a0 hw [] o0 y0 o1 kc0 vv0 h0 n0 Z0 P2 P3 P4 P0 P1 P5 hvv0 hb0) (by decide) (W := 0) (by decide) (by decide) (by decide) e1 (by rw [hml]; rfl) (argsL := [(.int (4 : Int32))]) (lenOf own_pd8 rfl) (rest := []) rfl rfl (Nat.le_of_eq rfl) (hb hby own_d_method_3_code_14) ?_
  intro _ T2 L2 X2 hQ2
  obtain ⟨rfl, N2q, e2⟩ := hQ2
  have N2 := Fr.app N1 N2q
  show own_Go p e below _ (T2.setTop (mkF m 17 #[.val (.ref o0), .val (.int (8 : Int32))] [(.int (101 : Int32))]))
  refine own_go (fun _ hr => XS.bipush X2.here hx rfl (hb hby own_d_method_3_code_17) (XS.icmpYes X2.here hx rfl (pc0 := 19) (pc' := 62) rfl (hb hby own_d_method_3_code_19) rfl (feq (by decide)).2 (by decide) (by decide) (XS.iconst X2.here hx rfl (hb hby own_d_method_3_code_62) hr))) ?_
  show own_Go p e below _ (T2.setTop (mkF m 63 #[.val (.ref o0), .val (.int (8 : Int32))] [(.int (0 : Int32))]))
  exact own_retN X2 hx hlk Bd.returns (t := .boolean) (by simp) (hb hby own_d_method_3_code_63) (by decide) (by decide) ⟨rfl, N2, e2⟩
theorem own_pd9 : parseMethodDescriptor "(Ljava/lang/String;)Z" = some ⟨[(.object "java/lang/String")], some .boolean⟩ := by decide +kernel
theorem own_d_prog_4_method_5_code_0 : decode prog_4_method_5_code 0 = .ok (.aload_n 0, 1) := by decide +kernel
theorem own_d_prog_4_method_5_code_1 : decode prog_4_method_5_code 1 = .ok (.getstatic 3, 3) := by decide +kernel
theorem own_d_prog_4_method_5_code_4 : decode prog_4_method_5_code 4 = .ok (.if_acmp .eq 7, 3) := by decide +kernel
theorem own_d_prog_4_method_5_code_11 : decode prog_4_method_5_code 11 = .ok (.iconst 0, 1) := by decide +kernel
theorem own_d_prog_4_method_5_code_12 : decode prog_4_method_5_code 12 = .ok (.ireturn, 1) := by decide +kernel
def Q_isAmount_10 (Z : State) (h0 : Heap) (n0 : Nat) (v : Option Value) (h : Heap) (L : List Loc) : Prop := v = some (.int (0 : Int32)) ∧ Fr n0 L ∧ h = h0
set_option maxRecDepth 65536 in
set_option maxHeartbeats 40000000 in
theorem rm_isAmount_10 (l : Launch) (Z : State) (a0 : Array Value) (hw : ∀ d ∈ tables_1, d.before a0 Z = true) (ws : List Jvm.Cond) (o0 : Addr) (h0 : Heap) (n0 : Nat) (Z0 : n0 ≤ h0.size) (P0 : Sta Z h0 "com/example/strict_tariff/stricttariff/pricing/Column" "USAGE" "Lcom/example/strict_tariff/stricttariff/pricing/Column;" (.ref o0)) :
    MetFree l (⟨"com/example/strict_tariff/stricttariff/pricing/Column", "isAmount", "()Z"⟩ : MethodName) (head1 (Jvm.Cond.code (⟨"com/example/strict_tariff/stricttariff/pricing/Column", "isAmount", "()Z"⟩ : MethodName) prog_4_method_5_code 1 (some .boolean) :: ws) ({ frames := 0, cells := 0, slots := 0, locals := 0 } : Room)) (fun aA U => aA = #[(.ref o0)] ∧ Z.Warmed39 U.vm ∧ U.heap = h0) (fun _ _ _ _ _ => True) (fun _ U o U' => ∃ v L, o = .returned v ∧ Q_isAmount_10 Z h0 n0 v U'.heap L ∧ FrameEnd U o U' L ({ frames := 0, cells := 0, slots := 0, locals := 0 } : Room).cells ({ frames := 0, cells := 0, slots := 0, locals := 0 } : Room).slots) := by
  refine MetFree.of_bodySF (plainFor_of_name own_pn_com_example_strict_tariff_stricttariff_pricing_Column) hisR ?_
  intro p e s m args below meth c s₁ Bd hml0 hP hK
  obtain ⟨rfl, hZ, hh⟩ := hP
  have hx := Bd.exec
  have hby := Bd.bytes
  have hlk : meth.locks = false := BodyLoose.notSynchronized Bd
  have hml : c.maxLocals = 1 := hml0
  have hown : s.vm.findClass "com/example/strict_tariff/stricttariff/pricing/Column" = some m.cls := findClass_of_methodNamed Bd.named
  have hnm := (name_of_methodNamed Bd.named Bd.method).1
  have X0 : Stand p l e ({ frames := 0, cells := 0, slots := 0, locals := 0 } : Room) s m #[(.ref o0)] below meth c s₁ [] 0 0 := Stand.of_body Bd
  have e0 : s₁.heap = h0 := by rw [← hh, Bd.state]; rfl
  have N0 := Fr.nil n0
  show own_Go p e below (own_K s (Q_isAmount_10 Z h0 n0) ({ frames := 0, cells := 0, slots := 0, locals := 0 } : Room).cells ({ frames := 0, cells := 0, slots := 0, locals := 0 } : Room).slots) (s₁.setTop (entryFrame m #[(.ref o0)] 1))
  rw [(by first | (simp [entryFrame, mkF, argsToLocals, Value.category]; done) | rfl : entryFrame m #[(.ref o0)] 1 = mkF m 0 #[.val (.ref o0)] [])]
  show own_Go p e below _ (s₁.setTop (mkF m 0 #[.val (.ref o0)] []))
  refine own_go (fun _ hr => XS.aloadN X0.here hx rfl (hb hby own_d_prog_4_method_5_code_0) rfl rfl hr) ?_
  show own_Go p e below _ (s₁.setTop (mkF m 1 #[.val (.ref o0)] [(.ref o0)]))
  obtain ⟨T1, X1, e1, st1⟩ := getS2 X0 hx hZ hown (host := "") (Or.inl (hw _ (own_m 60 rfl))) Via.refl e0 P0 (g := (mkF m 1 #[.val (.ref o0)] [(.ref o0)])) rfl (hb hby own_d_prog_4_method_5_code_1)
  refine own_go st1 ?_
  show own_Go p e below _ (T1.setTop (mkF m 4 #[.val (.ref o0)] [(.ref o0), (.ref o0)]))
  refine own_go (fun _ hr => Jvm.RoadKit.acmp X1 hx rfl rfl rfl (pc0 := 4) (pc' := 11) (same := true) rfl (hb hby own_d_prog_4_method_5_code_4) rfl (decide_eq_true rfl) (by decide) (by decide) hr) ?_
  show own_Go p e below _ (T1.setTop (mkF m 11 #[.val (.ref o0)] []))
  refine own_go (fun _ hr => XS.iconst X1.here hx rfl (hb hby own_d_prog_4_method_5_code_11) hr) ?_
  show own_Go p e below _ (T1.setTop (mkF m 12 #[.val (.ref o0)] [(.int (0 : Int32))]))
  exact own_retN X1 hx hlk Bd.returns (t := .boolean) (by simp) (hb hby own_d_prog_4_method_5_code_12) (by decide) (by decide) ⟨rfl, N0, e1⟩
theorem own_d_method_2_code_8 : decode method_2_code 8 = .ok (.iload_n 0, 1) := by decide +kernel
theorem own_d_method_2_code_9 : decode method_2_code 9 = .ok (.iconst 1, 1) := by decide +kernel
theorem own_d_method_2_code_10 : decode method_2_code 10 = .ok (.if_icmp .ne 7, 3) := by decide +kernel
theorem own_d_method_2_code_17 : decode method_2_code 17 = .ok (.iload_n 0, 1) := by decide +kernel
theorem own_d_method_2_code_18 : decode method_2_code 18 = .ok (.iconst 2, 1) := by decide +kernel
theorem own_d_method_2_code_19 : decode method_2_code 19 = .ok (.if_icmp .ne 7, 3) := by decide +kernel
theorem own_d_method_2_code_26 : decode method_2_code 26 = .ok (.getstatic 19, 3) := by decide +kernel
theorem own_d_method_2_code_29 : decode method_2_code 29 = .ok (.areturn, 1) := by decide +kernel
def Q_pick_11 (Z : State) (o0 : Addr) (h0 : Heap) (n0 : Nat) (v : Option Value) (h : Heap) (L : List Loc) : Prop := v = some (.ref o0) ∧ Fr n0 L ∧ h = h0
set_option maxRecDepth 65536 in
set_option maxHeartbeats 40000000 in
theorem rm_pick_11 (l : Launch) (Z : State) (a0 : Array Value) (hw : ∀ d ∈ tables_1, d.before a0 Z = true) (ws : List Jvm.Cond) (o0 : Addr) (h0 : Heap) (n0 : Nat) (Z0 : n0 ≤ h0.size) (P0 : Sta Z h0 "com/example/strict_tariff/stricttariff/pricing/Column" "GAS_PART" "Lcom/example/strict_tariff/stricttariff/pricing/Column;" (.ref o0)) :
    MetFree l (⟨"com/example/strict_tariff/stricttariff/pricing/ColumnIsAmountPinLaw", "pick", "(I)Lcom/example/strict_tariff/stricttariff/pricing/Column;"⟩ : MethodName) (head1 (Jvm.Cond.code (⟨"com/example/strict_tariff/stricttariff/pricing/ColumnIsAmountPinLaw", "pick", "(I)Lcom/example/strict_tariff/stricttariff/pricing/Column;"⟩ : MethodName) method_2_code 1 (some (.object "com/example/strict_tariff/stricttariff/pricing/Column")) :: ws) ({ frames := 0, cells := 0, slots := 0, locals := 0 } : Room)) (fun aA U => aA = #[(.int (3 : Int32))] ∧ Z.Warmed39 U.vm ∧ U.heap = h0) (fun _ _ _ _ _ => True) (fun _ U o U' => ∃ v L, o = .returned v ∧ Q_pick_11 Z o0 h0 n0 v U'.heap L ∧ FrameEnd U o U' L ({ frames := 0, cells := 0, slots := 0, locals := 0 } : Room).cells ({ frames := 0, cells := 0, slots := 0, locals := 0 } : Room).slots) := by
  refine MetFree.of_bodySF (plainFor_of_name own_pn_com_example_strict_tariff_stricttariff_pricing_ColumnIsAmountPinLaw) hisR ?_
  intro p e s m args below meth c s₁ Bd hml0 hP hK
  obtain ⟨rfl, hZ, hh⟩ := hP
  have hx := Bd.exec
  have hby := Bd.bytes
  have hlk : meth.locks = false := BodyLoose.notSynchronized Bd
  have hml : c.maxLocals = 1 := hml0
  have hown : s.vm.findClass "com/example/strict_tariff/stricttariff/pricing/ColumnIsAmountPinLaw" = some m.cls := findClass_of_methodNamed Bd.named
  have hnm := (name_of_methodNamed Bd.named Bd.method).1
  have X0 : Stand p l e ({ frames := 0, cells := 0, slots := 0, locals := 0 } : Room) s m #[(.int (3 : Int32))] below meth c s₁ [] 0 0 := Stand.of_body Bd
  have e0 : s₁.heap = h0 := by rw [← hh, Bd.state]; rfl
  have N0 := Fr.nil n0
  show own_Go p e below (own_K s (Q_pick_11 Z o0 h0 n0) ({ frames := 0, cells := 0, slots := 0, locals := 0 } : Room).cells ({ frames := 0, cells := 0, slots := 0, locals := 0 } : Room).slots) (s₁.setTop (entryFrame m #[(.int (3 : Int32))] 1))
  rw [(by first | (simp [entryFrame, mkF, argsToLocals, Value.category]; done) | rfl : entryFrame m #[(.int (3 : Int32))] 1 = mkF m 0 #[.val (.int (3 : Int32))] [])]
  show own_Go p e below _ (s₁.setTop (mkF m 0 #[.val (.int (3 : Int32))] []))
  refine own_go (fun _ hr => XS.iloadN X0.here hx rfl (hb hby own_d_method_2_code_0) rfl (XS.ifYes X0.here hx rfl (pc0 := 1) (pc' := 8) rfl (hb hby own_d_method_2_code_1) rfl ((if0 _ _).trans (feq (by decide)).2) (by decide) (by decide) (XS.iloadN X0.here hx rfl (hb hby own_d_method_2_code_8) rfl (XS.iconst X0.here hx rfl (hb hby own_d_method_2_code_9) (XS.icmpYes X0.here hx rfl (pc0 := 10) (pc' := 17) rfl (hb hby own_d_method_2_code_10) rfl (feq (by decide)).2 (by decide) (by decide) (XS.iloadN X0.here hx rfl (hb hby own_d_method_2_code_17) rfl (XS.iconst X0.here hx rfl (hb hby own_d_method_2_code_18) (XS.icmpYes X0.here hx rfl (pc0 := 19) (pc' := 26) rfl (hb hby own_d_method_2_code_19) rfl (feq (by decide)).2 (by decide) (by decide) hr)))))))) ?_
  show own_Go p e below _ (s₁.setTop (mkF m 26 #[.val (.int (3 : Int32))] []))
  obtain ⟨T1, X1, e1, st1⟩ := getS2 X0 hx hZ hown (host := "") (Or.inl (hw _ (own_m 61 rfl))) Via.refl e0 P0 (g := (mkF m 26 #[.val (.int (3 : Int32))] [])) rfl (hb hby own_d_method_2_code_26)
  refine own_go st1 ?_
  show own_Go p e below _ (T1.setTop (mkF m 29 #[.val (.int (3 : Int32))] [(.ref o0)]))
  exact own_retR X1 hx hlk Bd.returns rfl rfl (hb hby own_d_method_2_code_29) (by decide) (by decide) ⟨rfl, N0, e1⟩
def Q_length_12 (Z : State) (h0 : Heap) (n0 : Nat) (v : Option Value) (h : Heap) (L : List Loc) : Prop := v = some (.int (12 : Int32)) ∧ Fr n0 L ∧ h = h0
set_option maxRecDepth 65536 in
set_option maxHeartbeats 40000000 in
theorem rm_length_12 (l : Launch) (Z : State) (a0 : Array Value) (hw : ∀ d ∈ tables_1, d.before a0 Z = true) (ws : List Jvm.Cond) (o0 : Addr) (o1 : Addr) (kc0 : ClassId) (y0 : Int32) (h0 : Heap) (n0 : Nat) (Z0 : n0 ≤ h0.size) (P0 : Fld Z h0 o0 "java/lang/String" "value" "[B" (.ref o1)) (P1 : Arv Z h0 o1 kc0 .byte (12 : Int32) [(.int (103 : Int32)), (.int (97 : Int32)), (.int (115 : Int32)), (.int (95 : Int32)), (.int (112 : Int32)), (.int (97 : Int32)), (.int (114 : Int32)), (.int (116 : Int32)), (.int (95 : Int32)), (.int (121 : Int32)), (.int (101 : Int32)), (.int (110 : Int32))] (.int (0 : Int32))) (P2 : Sta Z h0 "java/lang/String" "COMPACT_STRINGS" "Z" (.int y0)) (P3 : Fld Z h0 o0 "java/lang/String" "coder" "B" (.int (0 : Int32))) (P4 : Exa Z h0 o0 "java/lang/String") (hb0 : ¬ (y0 = (0 : Int32))) :
    MetFree l (⟨"java/lang/String", "length", "()I"⟩ : MethodName) (head1 (Jvm.Cond.code (⟨"java/lang/String", "length", "()I"⟩ : MethodName) jdk_42_method_54_code 1 (some .int) :: ws) ({ frames := 1, cells := 0, slots := 0, locals := 13 } : Room)) (fun aA U => aA = #[(.ref o0)] ∧ Z.Warmed39 U.vm ∧ U.heap = h0) (fun _ _ _ _ _ => True) (fun _ U o U' => ∃ v L, o = .returned v ∧ Q_length_12 Z h0 n0 v U'.heap L ∧ FrameEnd U o U' L ({ frames := 1, cells := 0, slots := 0, locals := 13 } : Room).cells ({ frames := 1, cells := 0, slots := 0, locals := 13 } : Room).slots) := by
  refine MetFree.of_bodySF (plainFor_of_name own_pn_java_lang_String) hisR ?_
  intro p e s m args below meth c s₁ Bd hml0 hP hK
  obtain ⟨rfl, hZ, hh⟩ := hP
  have hx := Bd.exec
  have hby := Bd.bytes
  have hlk : meth.locks = false := BodyLoose.notSynchronized Bd
  have hml : c.maxLocals = 1 := hml0
  have hown : s.vm.findClass "java/lang/String" = some m.cls := findClass_of_methodNamed Bd.named
  have hnm := (name_of_methodNamed Bd.named Bd.method).1
  have X0 : Stand p l e ({ frames := 1, cells := 0, slots := 0, locals := 13 } : Room) s m #[(.ref o0)] below meth c s₁ [] 0 0 := Stand.of_body Bd
  have e0 : s₁.heap = h0 := by rw [← hh, Bd.state]; rfl
  have N0 := Fr.nil n0
  show own_Go p e below (own_K s (Q_length_12 Z h0 n0) ({ frames := 1, cells := 0, slots := 0, locals := 13 } : Room).cells ({ frames := 1, cells := 0, slots := 0, locals := 13 } : Room).slots) (s₁.setTop (entryFrame m #[(.ref o0)] 1))
  rw [(by first | (simp [entryFrame, mkF, argsToLocals, Value.category]; done) | rfl : entryFrame m #[(.ref o0)] 1 = mkF m 0 #[.val (.ref o0)] [])]
  show own_Go p e below _ (s₁.setTop (mkF m 0 #[.val (.ref o0)] []))
  refine own_go (fun _ hr => XS.aloadN X0.here hx rfl (hb hby own_d_jdk_42_method_54_code_0) rfl rfl hr) ?_
  show own_Go p e below _ (s₁.setTop (mkF m 1 #[.val (.ref o0)] [(.ref o0)]))
  obtain ⟨T1, X1, e1, st1⟩ := getF X0 hx hZ hown (host := "") (Or.inl (hw _ (own_m 23 rfl))) Via.refl e0 P0 (g := (mkF m 1 #[.val (.ref o0)] [(.ref o0)])) rfl rfl (hb hby own_d_jdk_42_method_54_code_1)
  refine own_go st1 ?_
  show own_Go p e below _ (T1.setTop (mkF m 4 #[.val (.ref o0)] [(.ref o1)]))
  refine own_go (fun _ hr => own_alen X1 hx hZ e1 P1 rfl rfl (hb hby own_d_jdk_42_method_54_code_4) (XS.aloadN X1.here hx rfl (hb hby own_d_jdk_42_method_54_code_5) rfl rfl hr)) ?_
  show own_Go p e below _ (T1.setTop (mkF m 6 #[.val (.ref o0)] [(.ref o0), (.int (12 : Int32))]))
  refine own_cv X1 hx hZ hown (notFace_of_selects (args := #[]) (mvT hZ (hw _ (own_m 28 rfl)))) (hw _ (own_m 25 rfl)) (hw _ (own_m 26 rfl)) (hw _ (own_m 28 rfl)) (hw _ (own_m 27 rfl)) (hw _ (own_m 21 rfl)) (hw _ (own_m 29 rfl)) (by decide) P4 (rm := { frames := 0, cells := 0, slots := 0, locals := 0 }) (rm_coder_2 l Z a0 hw [] o0 y0 h0 n0 Z0 P2 P3 hb0) (by decide) (W := 1) (by decide) (by decide) (by decide) e1 (by rw [hml]; rfl) (argsL := []) (lenOf own_pd2 rfl) (rest := [(.int (12 : Int32))]) rfl rfl (Nat.le_of_eq rfl) (hb hby own_d_jdk_42_method_54_code_6) ?_
  intro _ T2 L2 X2 hQ2
  obtain ⟨rfl, N2q, e2⟩ := hQ2
  have N2 := Fr.app N0 N2q
  show own_Go p e below _ (T2.setTop (mkF m 9 #[.val (.ref o0)] [(.int (0 : Int32)), (.int (12 : Int32))]))
  refine own_go (fun _ hr => XS.ishr X2.here hx rfl (hb hby own_d_jdk_42_method_54_code_9) rfl hr) ?_
  show own_Go p e below _ (T2.setTop (mkF m 10 #[.val (.ref o0)] [(.int (12 : Int32))]))
  exact own_retI X2 hx hlk Bd.returns (hb hby own_d_jdk_42_method_54_code_10) (by decide) (by decide) ⟨rfl, N2, e2⟩
def Q_checkIndex_13 (Z : State) (h0 : Heap) (n0 : Nat) (v : Option Value) (h : Heap) (L : List Loc) : Prop := v = some (.int (8 : Int32)) ∧ Fr n0 L ∧ h = h0
set_option maxRecDepth 65536 in
set_option maxHeartbeats 40000000 in
theorem rm_checkIndex_13 (l : Launch) (Z : State) (a0 : Array Value) (hw : ∀ d ∈ tables_1, d.before a0 Z = true) (ws : List Jvm.Cond) (vv0 : Value) (h0 : Heap) (n0 : Nat) (Z0 : n0 ≤ h0.size) (hvv0 : vv0.isRef = true) :
    MetFree l (⟨"jdk/internal/util/Preconditions", "checkIndex", "(IILjava/util/function/BiFunction;)I"⟩ : MethodName) (head1 (Jvm.Cond.code (⟨"jdk/internal/util/Preconditions", "checkIndex", "(IILjava/util/function/BiFunction;)I"⟩ : MethodName) jdk_41_method_11_code 3 (some .int) :: ws) ({ frames := 0, cells := 0, slots := 0, locals := 0 } : Room)) (fun aA U => aA = #[(.int (8 : Int32)), (.int (12 : Int32)), vv0] ∧ Z.Warmed39 U.vm ∧ U.heap = h0) (fun _ _ _ _ _ => True) (fun _ U o U' => ∃ v L, o = .returned v ∧ Q_checkIndex_13 Z h0 n0 v U'.heap L ∧ FrameEnd U o U' L ({ frames := 0, cells := 0, slots := 0, locals := 0 } : Room).cells ({ frames := 0, cells := 0, slots := 0, locals := 0 } : Room).slots) := by
  refine MetFree.of_bodySF (plainFor_of_name own_pn_jdk_internal_util_Preconditions) hisR ?_
  intro p e s m args below meth c s₁ Bd hml0 hP hK
  obtain ⟨rfl, hZ, hh⟩ := hP
  have hx := Bd.exec
  have hby := Bd.bytes
  have hlk : meth.locks = false := BodyLoose.notSynchronized Bd
  have hml : c.maxLocals = 3 := hml0
  have hown : s.vm.findClass "jdk/internal/util/Preconditions" = some m.cls := findClass_of_methodNamed Bd.named
  have hnm := (name_of_methodNamed Bd.named Bd.method).1
  have X0 : Stand p l e ({ frames := 0, cells := 0, slots := 0, locals := 0 } : Room) s m #[(.int (8 : Int32)), (.int (12 : Int32)), vv0] below meth c s₁ [] 0 0 := Stand.of_body Bd
  have e0 : s₁.heap = h0 := by rw [← hh, Bd.state]; rfl
  have N0 := Fr.nil n0
  show own_Go p e below (own_K s (Q_checkIndex_13 Z h0 n0) ({ frames := 0, cells := 0, slots := 0, locals := 0 } : Room).cells ({ frames := 0, cells := 0, slots := 0, locals := 0 } : Room).slots) (s₁.setTop (entryFrame m #[(.int (8 : Int32)), (.int (12 : Int32)), vv0] 3))
  rw [(by first | (simp [entryFrame, mkF, argsToLocals, Value.category]; done) | (have q := hvv0; revert q; cases vv0 <;> simp [entryFrame, mkF, argsToLocals, Value.category, Value.isRef]) | rfl : entryFrame m #[(.int (8 : Int32)), (.int (12 : Int32)), vv0] 3 = mkF m 0 #[.val (.int (8 : Int32)), .val (.int (12 : Int32)), .val vv0] [])]
  show own_Go p e below _ (s₁.setTop (mkF m 0 #[.val (.int (8 : Int32)), .val (.int (12 : Int32)), .val vv0] []))
  refine own_go (fun _ hr => XS.iloadN X0.here hx rfl (hb hby own_d_jdk_41_method_11_code_0) rfl (XS.ifNo X0.here hx rfl (hb hby own_d_jdk_41_method_11_code_1) rfl ((if0 _ _).trans (flt (by decide)).1) (XS.iloadN X0.here hx rfl (hb hby own_d_jdk_41_method_11_code_4) rfl (XS.iloadN X0.here hx rfl (hb hby own_d_jdk_41_method_11_code_5) rfl (XS.icmpYes X0.here hx rfl (pc0 := 6) (pc' := 16) rfl (hb hby own_d_jdk_41_method_11_code_6) rfl (tlt (by decide)).1 (by decide) (by decide) (XS.iloadN X0.here hx rfl (hb hby own_d_jdk_41_method_11_code_16) rfl hr)))))) ?_
  show own_Go p e below _ (s₁.setTop (mkF m 17 #[.val (.int (8 : Int32)), .val (.int (12 : Int32)), .val vv0] [(.int (8 : Int32))]))
  exact own_retI X0 hx hlk Bd.returns (hb hby own_d_jdk_41_method_11_code_17) (by decide) (by decide) ⟨rfl, N0, e0⟩
def Q_checkIndex_14 (Z : State) (h0 : Heap) (n0 : Nat) (v : Option Value) (h : Heap) (L : List Loc) : Prop := v = none ∧ Fr n0 L ∧ h = h0
set_option maxRecDepth 65536 in
set_option maxHeartbeats 40000000 in
theorem rm_checkIndex_14 (l : Launch) (Z : State) (a0 : Array Value) (hw : ∀ d ∈ tables_1, d.before a0 Z = true) (ws : List Jvm.Cond) (vv0 : Value) (h0 : Heap) (n0 : Nat) (Z0 : n0 ≤ h0.size) (P0 : Sta Z h0 "jdk/internal/util/Preconditions" "SIOOBE_FORMATTER" "Ljava/util/function/BiFunction;" vv0) (hvv0 : vv0.isRef = true) :
    MetFree l (⟨"java/lang/String", "checkIndex", "(II)V"⟩ : MethodName) (head1 (Jvm.Cond.code (⟨"java/lang/String", "checkIndex", "(II)V"⟩ : MethodName) jdk_42_method_155_code 2 none :: ws) ({ frames := 1, cells := 0, slots := 0, locals := 14 } : Room)) (fun aA U => aA = #[(.int (8 : Int32)), (.int (12 : Int32))] ∧ Z.Warmed39 U.vm ∧ U.heap = h0) (fun _ _ _ _ _ => True) (fun _ U o U' => ∃ v L, o = .returned v ∧ Q_checkIndex_14 Z h0 n0 v U'.heap L ∧ FrameEnd U o U' L ({ frames := 1, cells := 0, slots := 0, locals := 14 } : Room).cells ({ frames := 1, cells := 0, slots := 0, locals := 14 } : Room).slots) := by
  refine MetFree.of_bodySF (plainFor_of_name own_pn_java_lang_String) hisR ?_
  intro p e s m args below meth c s₁ Bd hml0 hP hK
  obtain ⟨rfl, hZ, hh⟩ := hP
  have hx := Bd.exec
  have hby := Bd.bytes
  have hlk : meth.locks = false := BodyLoose.notSynchronized Bd
  have hml : c.maxLocals = 2 := hml0
  have hown : s.vm.findClass "java/lang/String" = some m.cls := findClass_of_methodNamed Bd.named
  have hnm := (name_of_methodNamed Bd.named Bd.method).1
  have X0 : Stand p l e ({ frames := 1, cells := 0, slots := 0, locals := 14 } : Room) s m #[(.int (8 : Int32)), (.int (12 : Int32))] below meth c s₁ [] 0 0 := Stand.of_body Bd
  have e0 : s₁.heap = h0 := by rw [← hh, Bd.state]; rfl
  have N0 := Fr.nil n0
  show own_Go p e below (own_K s (Q_checkIndex_14 Z h0 n0) ({ frames := 1, cells := 0, slots := 0, locals := 14 } : Room).cells ({ frames := 1, cells := 0, slots := 0, locals := 14 } : Room).slots) (s₁.setTop (entryFrame m #[(.int (8 : Int32)), (.int (12 : Int32))] 2))
  rw [(by first | (simp [entryFrame, mkF, argsToLocals, Value.category]; done) | rfl : entryFrame m #[(.int (8 : Int32)), (.int (12 : Int32))] 2 = mkF m 0 #[.val (.int (8 : Int32)), .val (.int (12 : Int32))] [])]
  show own_Go p e below _ (s₁.setTop (mkF m 0 #[.val (.int (8 : Int32)), .val (.int (12 : Int32))] []))
  refine own_go (fun _ hr => XS.iloadN X0.here hx rfl (hb hby own_d_jdk_42_method_155_code_0) rfl (XS.iloadN X0.here hx rfl (hb hby own_d_jdk_42_method_155_code_1) rfl hr)) ?_
  show own_Go p e below _ (s₁.setTop (mkF m 2 #[.val (.int (8 : Int32)), .val (.int (12 : Int32))] [(.int (12 : Int32)), (.int (8 : Int32))]))
  obtain ⟨T1, X1, e1, st1⟩ := getS2 X0 hx hZ hown (host := "") (Or.inl (hw _ (own_m 50 rfl))) Via.refl e0 P0 (g := (mkF m 2 #[.val (.int (8 : Int32)), .val (.int (12 : Int32))] [(.int (12 : Int32)), (.int (8 : Int32))])) rfl (hb hby own_d_jdk_42_method_155_code_2)
  refine own_go st1 ?_
  show own_Go p e below _ (T1.setTop (mkF m 5 #[.val (.int (8 : Int32)), .val (.int (12 : Int32))] [vv0, (.int (12 : Int32)), (.int (8 : Int32))]))
  refine own_cs X1 hx hZ hown (hw _ (own_m 52 rfl)) (hw _ (own_m 53 rfl)) (hw _ (own_m 51 rfl)) (hw _ (own_m 54 rfl)) (by decide) (rm := { frames := 0, cells := 0, slots := 0, locals := 0 }) (rm_checkIndex_13 l Z a0 hw [] vv0 h0 n0 Z0 hvv0) (by decide) (W := 0) (by decide) (by decide) (by decide) e1 (by rw [hml]; rfl) (argsL := [(.int (8 : Int32)), (.int (12 : Int32)), vv0]) (lenOf own_pd5 rfl) (rest := []) rfl rfl (Nat.le_of_eq rfl) (hb hby own_d_jdk_42_method_155_code_5) ?_
  intro _ T2 L2 X2 hQ2
  obtain ⟨rfl, N2q, e2⟩ := hQ2
  have N2 := Fr.app N0 N2q
  show own_Go p e below _ (T2.setTop (mkF m 8 #[.val (.int (8 : Int32)), .val (.int (12 : Int32))] [(.int (8 : Int32))]))
  refine own_go (fun _ hr => XS.pop X2.here hx rfl (hb hby own_d_jdk_42_method_155_code_8) rfl rfl hr) ?_
  show own_Go p e below _ (T2.setTop (mkF m 9 #[.val (.int (8 : Int32)), .val (.int (12 : Int32))] []))
  exact own_ret0 X2 hx hlk Bd.returns (hb hby own_d_jdk_42_method_155_code_9) (by decide) (by decide) ⟨rfl, N2, e2⟩
def Q_charAt_15 (Z : State) (h0 : Heap) (n0 : Nat) (v : Option Value) (h : Heap) (L : List Loc) : Prop := v = some (.int (95 : Int32)) ∧ Fr n0 L ∧ h = h0
set_option maxRecDepth 65536 in
set_option maxHeartbeats 40000000 in
theorem rm_charAt_15 (l : Launch) (Z : State) (a0 : Array Value) (hw : ∀ d ∈ tables_1, d.before a0 Z = true) (ws : List Jvm.Cond) (o0 : Addr) (kc0 : ClassId) (vv0 : Value) (h0 : Heap) (n0 : Nat) (Z0 : n0 ≤ h0.size) (P0 : Arv Z h0 o0 kc0 .byte (12 : Int32) [(.int (103 : Int32)), (.int (97 : Int32)), (.int (115 : Int32)), (.int (95 : Int32)), (.int (112 : Int32)), (.int (97 : Int32)), (.int (114 : Int32)), (.int (116 : Int32)), (.int (95 : Int32)), (.int (121 : Int32)), (.int (101 : Int32)), (.int (110 : Int32))] (.int (0 : Int32))) (P1 : Sta Z h0 "jdk/internal/util/Preconditions" "SIOOBE_FORMATTER" "Ljava/util/function/BiFunction;" vv0) (hvv0 : vv0.isRef = true) :
    MetFree l (⟨"java/lang/StringLatin1", "charAt", "([BI)C"⟩ : MethodName) (head1 (Jvm.Cond.code (⟨"java/lang/StringLatin1", "charAt", "([BI)C"⟩ : MethodName) jdk_43_method_2_code 2 (some .char) :: ws) ({ frames := 2, cells := 0, slots := 0, locals := 27 } : Room)) (fun aA U => aA = #[(.ref o0), (.int (8 : Int32))] ∧ Z.Warmed39 U.vm ∧ U.heap = h0) (fun _ _ _ _ _ => True) (fun _ U o U' => ∃ v L, o = .returned v ∧ Q_charAt_15 Z h0 n0 v U'.heap L ∧ FrameEnd U o U' L ({ frames := 2, cells := 0, slots := 0, locals := 27 } : Room).cells ({ frames := 2, cells := 0, slots := 0, locals := 27 } : Room).slots) := by
  refine MetFree.of_bodySF (plainFor_of_name own_pn_java_lang_StringLatin1) hisR ?_
  intro p e s m args below meth c s₁ Bd hml0 hP hK
  obtain ⟨rfl, hZ, hh⟩ := hP
  have hx := Bd.exec
  have hby := Bd.bytes
  have hlk : meth.locks = false := BodyLoose.notSynchronized Bd
  have hml : c.maxLocals = 2 := hml0
  have hown : s.vm.findClass "java/lang/StringLatin1" = some m.cls := findClass_of_methodNamed Bd.named
  have hnm := (name_of_methodNamed Bd.named Bd.method).1
  have X0 : Stand p l e ({ frames := 2, cells := 0, slots := 0, locals := 27 } : Room) s m #[(.ref o0), (.int (8 : Int32))] below meth c s₁ [] 0 0 := Stand.of_body Bd
  have e0 : s₁.heap = h0 := by rw [← hh, Bd.state]; rfl
  have N0 := Fr.nil n0
  show own_Go p e below (own_K s (Q_charAt_15 Z h0 n0) ({ frames := 2, cells := 0, slots := 0, locals := 27 } : Room).cells ({ frames := 2, cells := 0, slots := 0, locals := 27 } : Room).slots) (s₁.setTop (entryFrame m #[(.ref o0), (.int (8 : Int32))] 2))
  rw [(by first | (simp [entryFrame, mkF, argsToLocals, Value.category]; done) | rfl : entryFrame m #[(.ref o0), (.int (8 : Int32))] 2 = mkF m 0 #[.val (.ref o0), .val (.int (8 : Int32))] [])]
  show own_Go p e below _ (s₁.setTop (mkF m 0 #[.val (.ref o0), .val (.int (8 : Int32))] []))
  refine own_go (fun _ hr => XS.iloadN X0.here hx rfl (hb hby own_d_jdk_43_method_2_code_0) rfl (XS.aloadN X0.here hx rfl (hb hby own_d_jdk_43_method_2_code_1) rfl rfl (own_alen X0 hx hZ e0 P0 rfl rfl (hb hby own_d_jdk_43_method_2_code_2) hr))) ?_
  show own_Go p e below _ (s₁.setTop (mkF m 3 #[.val (.ref o0), .val (.int (8 : Int32))] [(.int (12 : Int32)), (.int (8 : Int32))]))
  refine own_cs X0 hx hZ hown (hw _ (own_m 47 rfl)) (hw _ (own_m 48 rfl)) (hw _ (own_m 21 rfl)) (hw _ (own_m 49 rfl)) (by decide) (rm := { frames := 1, cells := 0, slots := 0, locals := 14 }) (rm_checkIndex_14 l Z a0 hw [] vv0 h0 n0 Z0 P1 hvv0) (by decide) (W := 0) (by decide) (by decide) (by decide) e0 (by rw [hml]; rfl) (argsL := [(.int (8 : Int32)), (.int (12 : Int32))]) (lenOf own_pd6 rfl) (rest := []) rfl rfl (Nat.le_of_eq rfl) (hb hby own_d_jdk_43_method_2_code_3) ?_
  intro _ T1 L1 X1 hQ1
  obtain ⟨rfl, N1q, e1⟩ := hQ1
  have N1 := Fr.app N0 N1q
  show own_Go p e below _ (T1.setTop (mkF m 6 #[.val (.ref o0), .val (.int (8 : Int32))] []))
  refine own_go (fun _ hr => XS.aloadN X1.here hx rfl (hb hby own_d_jdk_43_method_2_code_6) rfl rfl (XS.iloadN X1.here hx rfl (hb hby own_d_jdk_43_method_2_code_7) rfl (own_baload X1 hx hZ e1 P0 (8 : Int32) (.int (95 : Int32)) ⟨by decide, by decide⟩ rfl rfl rfl (hb hby own_d_jdk_43_method_2_code_8) (XS.sipush X1.here hx rfl (hb hby own_d_jdk_43_method_2_code_9) (XS.iand X1.here hx rfl (hb hby own_d_jdk_43_method_2_code_12) rfl (XS.i2c X1.here hx rfl (hb hby own_d_jdk_43_method_2_code_13) rfl hr)))))) ?_
  show own_Go p e below _ (T1.setTop (mkF m 14 #[.val (.ref o0), .val (.int (8 : Int32))] [(.int (95 : Int32))]))
  exact own_retN X1 hx hlk Bd.returns (t := .char) (by simp) (hb hby own_d_jdk_43_method_2_code_14) (by decide) (by decide) ⟨rfl, N1, e1⟩
def Q_charAt_16 (Z : State) (h0 : Heap) (n0 : Nat) (v : Option Value) (h : Heap) (L : List Loc) : Prop := v = some (.int (95 : Int32)) ∧ Fr n0 L ∧ h = h0
set_option maxRecDepth 65536 in
set_option maxHeartbeats 40000000 in
theorem rm_charAt_16 (l : Launch) (Z : State) (a0 : Array Value) (hw : ∀ d ∈ tables_1, d.before a0 Z = true) (ws : List Jvm.Cond) (o0 : Addr) (y0 : Int32) (o1 : Addr) (kc0 : ClassId) (vv0 : Value) (h0 : Heap) (n0 : Nat) (Z0 : n0 ≤ h0.size) (P0 : Sta Z h0 "java/lang/String" "COMPACT_STRINGS" "Z" (.int y0)) (P1 : Fld Z h0 o0 "java/lang/String" "coder" "B" (.int (0 : Int32))) (P2 : Exa Z h0 o0 "java/lang/String") (P3 : Fld Z h0 o0 "java/lang/String" "value" "[B" (.ref o1)) (P4 : Arv Z h0 o1 kc0 .byte (12 : Int32) [(.int (103 : Int32)), (.int (97 : Int32)), (.int (115 : Int32)), (.int (95 : Int32)), (.int (112 : Int32)), (.int (97 : Int32)), (.int (114 : Int32)), (.int (116 : Int32)), (.int (95 : Int32)), (.int (121 : Int32)), (.int (101 : Int32)), (.int (110 : Int32))] (.int (0 : Int32))) (P5 : Sta Z h0 "jdk/internal/util/Preconditions" "SIOOBE_FORMATTER" "Ljava/util/function/BiFunction;" vv0) (hvv0 : vv0.isRef = true) (hb0 : ¬ (y0 = (0 : Int32))) :
    MetFree l (⟨"java/lang/String", "charAt", "(I)C"⟩ : MethodName) (head1 (Jvm.Cond.code (⟨"java/lang/String", "charAt", "(I)C"⟩ : MethodName) jdk_42_method_56_code 2 (some .char) :: ws) ({ frames := 3, cells := 0, slots := 0, locals := 40 } : Room)) (fun aA U => aA = #[(.ref o0), (.int (8 : Int32))] ∧ Z.Warmed39 U.vm ∧ U.heap = h0) (fun _ _ _ _ _ => True) (fun _ U o U' => ∃ v L, o = .returned v ∧ Q_charAt_16 Z h0 n0 v U'.heap L ∧ FrameEnd U o U' L ({ frames := 3, cells := 0, slots := 0, locals := 40 } : Room).cells ({ frames := 3, cells := 0, slots := 0, locals := 40 } : Room).slots) := by
  refine MetFree.of_bodySF (plainFor_of_name own_pn_java_lang_String) hisR ?_
  intro p e s m args below meth c s₁ Bd hml0 hP hK
  obtain ⟨rfl, hZ, hh⟩ := hP
  have hx := Bd.exec
  have hby := Bd.bytes
  have hlk : meth.locks = false := BodyLoose.notSynchronized Bd
  have hml : c.maxLocals = 2 := hml0
  have hown : s.vm.findClass "java/lang/String" = some m.cls := findClass_of_methodNamed Bd.named
  have hnm := (name_of_methodNamed Bd.named Bd.method).1
  have X0 : Stand p l e ({ frames := 3, cells := 0, slots := 0, locals := 40 } : Room) s m #[(.ref o0), (.int (8 : Int32))] below meth c s₁ [] 0 0 := Stand.of_body Bd
  have e0 : s₁.heap = h0 := by rw [← hh, Bd.state]; rfl
  have N0 := Fr.nil n0
  show own_Go p e below (own_K s (Q_charAt_16 Z h0 n0) ({ frames := 3, cells := 0, slots := 0, locals := 40 } : Room).cells ({ frames := 3, cells := 0, slots := 0, locals := 40 } : Room).slots) (s₁.setTop (entryFrame m #[(.ref o0), (.int (8 : Int32))] 2))
  rw [(by first | (simp [entryFrame, mkF, argsToLocals, Value.category]; done) | rfl : entryFrame m #[(.ref o0), (.int (8 : Int32))] 2 = mkF m 0 #[.val (.ref o0), .val (.int (8 : Int32))] [])]
  show own_Go p e below _ (s₁.setTop (mkF m 0 #[.val (.ref o0), .val (.int (8 : Int32))] []))
  refine own_go (fun _ hr => XS.aloadN X0.here hx rfl (hb hby own_d_jdk_42_method_56_code_0) rfl rfl hr) ?_
  show own_Go p e below _ (s₁.setTop (mkF m 1 #[.val (.ref o0), .val (.int (8 : Int32))] [(.ref o0)]))
  refine own_cv X0 hx hZ hown (notFace_of_selects (args := #[]) (mvT hZ (hw _ (own_m 41 rfl)))) (hw _ (own_m 38 rfl)) (hw _ (own_m 39 rfl)) (hw _ (own_m 41 rfl)) (hw _ (own_m 40 rfl)) (hw _ (own_m 21 rfl)) (hw _ (own_m 42 rfl)) (by decide) P2 (rm := { frames := 0, cells := 0, slots := 0, locals := 0 }) (rm_isLatin1_4 l Z a0 hw [] o0 y0 h0 n0 Z0 P0 P1 hb0) (by decide) (W := 0) (by decide) (by decide) (by decide) e0 (by rw [hml]; rfl) (argsL := []) (lenOf own_pd4 rfl) (rest := []) rfl rfl (Nat.le_of_eq rfl) (hb hby own_d_jdk_42_method_56_code_1) ?_
  intro _ T1 L1 X1 hQ1
  obtain ⟨rfl, N1q, e1⟩ := hQ1
  have N1 := Fr.app N0 N1q
  show own_Go p e below _ (T1.setTop (mkF m 4 #[.val (.ref o0), .val (.int (8 : Int32))] [(.int (1 : Int32))]))
  refine own_go (fun _ hr => XS.ifNo X1.here hx rfl (hb hby own_d_jdk_42_method_56_code_4) rfl ((if0 _ _).trans (feq (by decide)).1) (XS.aloadN X1.here hx rfl (hb hby own_d_jdk_42_method_56_code_7) rfl rfl hr)) ?_
  show own_Go p e below _ (T1.setTop (mkF m 8 #[.val (.ref o0), .val (.int (8 : Int32))] [(.ref o0)]))
  obtain ⟨T2, X2, e2, st2⟩ := getF X1 hx hZ hown (host := "") (Or.inl (hw _ (own_m 23 rfl))) Via.refl e1 P3 (g := (mkF m 8 #[.val (.ref o0), .val (.int (8 : Int32))] [(.ref o0)])) rfl rfl (hb hby own_d_jdk_42_method_56_code_8)
  refine own_go st2 ?_
  show own_Go p e below _ (T2.setTop (mkF m 11 #[.val (.ref o0), .val (.int (8 : Int32))] [(.ref o1)]))
  refine own_go (fun _ hr => XS.iloadN X2.here hx rfl (hb hby own_d_jdk_42_method_56_code_11) rfl hr) ?_
  show own_Go p e below _ (T2.setTop (mkF m 12 #[.val (.ref o0), .val (.int (8 : Int32))] [(.int (8 : Int32)), (.ref o1)]))
  refine own_cs X2 hx hZ hown (hw _ (own_m 43 rfl)) (hw _ (own_m 44 rfl)) (hw _ (own_m 45 rfl)) (hw _ (own_m 46 rfl)) (by decide) (rm := { frames := 2, cells := 0, slots := 0, locals := 27 }) (rm_charAt_15 l Z a0 hw [] o1 kc0 vv0 h0 n0 Z0 P4 P5 hvv0) (by decide) (W := 0) (by decide) (by decide) (by decide) e2 (by rw [hml]; rfl) (argsL := [(.ref o1), (.int (8 : Int32))]) (lenOf own_pd7 rfl) (rest := []) rfl rfl (Nat.le_of_eq rfl) (hb hby own_d_jdk_42_method_56_code_12) ?_
  intro _ T3 L3 X3 hQ3
  obtain ⟨rfl, N3q, e3⟩ := hQ3
  have N3 := Fr.app N1 N3q
  show own_Go p e below _ (T3.setTop (mkF m 15 #[.val (.ref o0), .val (.int (8 : Int32))] [(.int (95 : Int32))]))
  exact own_retN X3 hx hlk Bd.returns (t := .char) (by simp) (hb hby own_d_jdk_42_method_56_code_15) (by decide) (by decide) ⟨rfl, N3, e3⟩
theorem own_d_method_3_code_22 : decode method_3_code 22 = .ok (.aload_n 0, 1) := by decide +kernel
theorem own_d_method_3_code_23 : decode method_3_code 23 = .ok (.iload_n 1, 1) := by decide +kernel
theorem own_d_method_3_code_24 : decode method_3_code 24 = .ok (.iconst 3, 1) := by decide +kernel
theorem own_d_method_3_code_25 : decode method_3_code 25 = .ok (.isub, 1) := by decide +kernel
theorem own_d_method_3_code_26 : decode method_3_code 26 = .ok (.invokevirtual 28, 3) := by decide +kernel
def Q_checkIndex_17 (Z : State) (h0 : Heap) (n0 : Nat) (v : Option Value) (h : Heap) (L : List Loc) : Prop := v = some (.int (9 : Int32)) ∧ Fr n0 L ∧ h = h0
set_option maxRecDepth 65536 in
set_option maxHeartbeats 40000000 in
theorem rm_checkIndex_17 (l : Launch) (Z : State) (a0 : Array Value) (hw : ∀ d ∈ tables_1, d.before a0 Z = true) (ws : List Jvm.Cond) (vv0 : Value) (h0 : Heap) (n0 : Nat) (Z0 : n0 ≤ h0.size) (hvv0 : vv0.isRef = true) :
    MetFree l (⟨"jdk/internal/util/Preconditions", "checkIndex", "(IILjava/util/function/BiFunction;)I"⟩ : MethodName) (head1 (Jvm.Cond.code (⟨"jdk/internal/util/Preconditions", "checkIndex", "(IILjava/util/function/BiFunction;)I"⟩ : MethodName) jdk_41_method_11_code 3 (some .int) :: ws) ({ frames := 0, cells := 0, slots := 0, locals := 0 } : Room)) (fun aA U => aA = #[(.int (9 : Int32)), (.int (12 : Int32)), vv0] ∧ Z.Warmed39 U.vm ∧ U.heap = h0) (fun _ _ _ _ _ => True) (fun _ U o U' => ∃ v L, o = .returned v ∧ Q_checkIndex_17 Z h0 n0 v U'.heap L ∧ FrameEnd U o U' L ({ frames := 0, cells := 0, slots := 0, locals := 0 } : Room).cells ({ frames := 0, cells := 0, slots := 0, locals := 0 } : Room).slots) := by
  refine MetFree.of_bodySF (plainFor_of_name own_pn_jdk_internal_util_Preconditions) hisR ?_
  intro p e s m args below meth c s₁ Bd hml0 hP hK
  obtain ⟨rfl, hZ, hh⟩ := hP
  have hx := Bd.exec
  have hby := Bd.bytes
  have hlk : meth.locks = false := BodyLoose.notSynchronized Bd
  have hml : c.maxLocals = 3 := hml0
  have hown : s.vm.findClass "jdk/internal/util/Preconditions" = some m.cls := findClass_of_methodNamed Bd.named
  have hnm := (name_of_methodNamed Bd.named Bd.method).1
  have X0 : Stand p l e ({ frames := 0, cells := 0, slots := 0, locals := 0 } : Room) s m #[(.int (9 : Int32)), (.int (12 : Int32)), vv0] below meth c s₁ [] 0 0 := Stand.of_body Bd
  have e0 : s₁.heap = h0 := by rw [← hh, Bd.state]; rfl
  have N0 := Fr.nil n0
  show own_Go p e below (own_K s (Q_checkIndex_17 Z h0 n0) ({ frames := 0, cells := 0, slots := 0, locals := 0 } : Room).cells ({ frames := 0, cells := 0, slots := 0, locals := 0 } : Room).slots) (s₁.setTop (entryFrame m #[(.int (9 : Int32)), (.int (12 : Int32)), vv0] 3))
  rw [(by first | (simp [entryFrame, mkF, argsToLocals, Value.category]; done) | (have q := hvv0; revert q; cases vv0 <;> simp [entryFrame, mkF, argsToLocals, Value.category, Value.isRef]) | rfl : entryFrame m #[(.int (9 : Int32)), (.int (12 : Int32)), vv0] 3 = mkF m 0 #[.val (.int (9 : Int32)), .val (.int (12 : Int32)), .val vv0] [])]
  show own_Go p e below _ (s₁.setTop (mkF m 0 #[.val (.int (9 : Int32)), .val (.int (12 : Int32)), .val vv0] []))
  refine own_go (fun _ hr => XS.iloadN X0.here hx rfl (hb hby own_d_jdk_41_method_11_code_0) rfl (XS.ifNo X0.here hx rfl (hb hby own_d_jdk_41_method_11_code_1) rfl ((if0 _ _).trans (flt (by decide)).1) (XS.iloadN X0.here hx rfl (hb hby own_d_jdk_41_method_11_code_4) rfl (XS.iloadN X0.here hx rfl (hb hby own_d_jdk_41_method_11_code_5) rfl (XS.icmpYes X0.here hx rfl (pc0 := 6) (pc' := 16) rfl (hb hby own_d_jdk_41_method_11_code_6) rfl (tlt (by decide)).1 (by decide) (by decide) (XS.iloadN X0.here hx rfl (hb hby own_d_jdk_41_method_11_code_16) rfl hr)))))) ?_
  show own_Go p e below _ (s₁.setTop (mkF m 17 #[.val (.int (9 : Int32)), .val (.int (12 : Int32)), .val vv0] [(.int (9 : Int32))]))
  exact own_retI X0 hx hlk Bd.returns (hb hby own_d_jdk_41_method_11_code_17) (by decide) (by decide) ⟨rfl, N0, e0⟩
def Q_checkIndex_18 (Z : State) (h0 : Heap) (n0 : Nat) (v : Option Value) (h : Heap) (L : List Loc) : Prop := v = none ∧ Fr n0 L ∧ h = h0
set_option maxRecDepth 65536 in
set_option maxHeartbeats 40000000 in
theorem rm_checkIndex_18 (l : Launch) (Z : State) (a0 : Array Value) (hw : ∀ d ∈ tables_1, d.before a0 Z = true) (ws : List Jvm.Cond) (vv0 : Value) (h0 : Heap) (n0 : Nat) (Z0 : n0 ≤ h0.size) (P0 : Sta Z h0 "jdk/internal/util/Preconditions" "SIOOBE_FORMATTER" "Ljava/util/function/BiFunction;" vv0) (hvv0 : vv0.isRef = true) :
    MetFree l (⟨"java/lang/String", "checkIndex", "(II)V"⟩ : MethodName) (head1 (Jvm.Cond.code (⟨"java/lang/String", "checkIndex", "(II)V"⟩ : MethodName) jdk_42_method_155_code 2 none :: ws) ({ frames := 1, cells := 0, slots := 0, locals := 14 } : Room)) (fun aA U => aA = #[(.int (9 : Int32)), (.int (12 : Int32))] ∧ Z.Warmed39 U.vm ∧ U.heap = h0) (fun _ _ _ _ _ => True) (fun _ U o U' => ∃ v L, o = .returned v ∧ Q_checkIndex_18 Z h0 n0 v U'.heap L ∧ FrameEnd U o U' L ({ frames := 1, cells := 0, slots := 0, locals := 14 } : Room).cells ({ frames := 1, cells := 0, slots := 0, locals := 14 } : Room).slots) := by
  refine MetFree.of_bodySF (plainFor_of_name own_pn_java_lang_String) hisR ?_
  intro p e s m args below meth c s₁ Bd hml0 hP hK
  obtain ⟨rfl, hZ, hh⟩ := hP
  have hx := Bd.exec
  have hby := Bd.bytes
  have hlk : meth.locks = false := BodyLoose.notSynchronized Bd
  have hml : c.maxLocals = 2 := hml0
  have hown : s.vm.findClass "java/lang/String" = some m.cls := findClass_of_methodNamed Bd.named
  have hnm := (name_of_methodNamed Bd.named Bd.method).1
  have X0 : Stand p l e ({ frames := 1, cells := 0, slots := 0, locals := 14 } : Room) s m #[(.int (9 : Int32)), (.int (12 : Int32))] below meth c s₁ [] 0 0 := Stand.of_body Bd
  have e0 : s₁.heap = h0 := by rw [← hh, Bd.state]; rfl
  have N0 := Fr.nil n0
  show own_Go p e below (own_K s (Q_checkIndex_18 Z h0 n0) ({ frames := 1, cells := 0, slots := 0, locals := 14 } : Room).cells ({ frames := 1, cells := 0, slots := 0, locals := 14 } : Room).slots) (s₁.setTop (entryFrame m #[(.int (9 : Int32)), (.int (12 : Int32))] 2))
  rw [(by first | (simp [entryFrame, mkF, argsToLocals, Value.category]; done) | rfl : entryFrame m #[(.int (9 : Int32)), (.int (12 : Int32))] 2 = mkF m 0 #[.val (.int (9 : Int32)), .val (.int (12 : Int32))] [])]
  show own_Go p e below _ (s₁.setTop (mkF m 0 #[.val (.int (9 : Int32)), .val (.int (12 : Int32))] []))
  refine own_go (fun _ hr => XS.iloadN X0.here hx rfl (hb hby own_d_jdk_42_method_155_code_0) rfl (XS.iloadN X0.here hx rfl (hb hby own_d_jdk_42_method_155_code_1) rfl hr)) ?_
  show own_Go p e below _ (s₁.setTop (mkF m 2 #[.val (.int (9 : Int32)), .val (.int (12 : Int32))] [(.int (12 : Int32)), (.int (9 : Int32))]))
  obtain ⟨T1, X1, e1, st1⟩ := getS2 X0 hx hZ hown (host := "") (Or.inl (hw _ (own_m 50 rfl))) Via.refl e0 P0 (g := (mkF m 2 #[.val (.int (9 : Int32)), .val (.int (12 : Int32))] [(.int (12 : Int32)), (.int (9 : Int32))])) rfl (hb hby own_d_jdk_42_method_155_code_2)
  refine own_go st1 ?_
  show own_Go p e below _ (T1.setTop (mkF m 5 #[.val (.int (9 : Int32)), .val (.int (12 : Int32))] [vv0, (.int (12 : Int32)), (.int (9 : Int32))]))
  refine own_cs X1 hx hZ hown (hw _ (own_m 52 rfl)) (hw _ (own_m 53 rfl)) (hw _ (own_m 51 rfl)) (hw _ (own_m 54 rfl)) (by decide) (rm := { frames := 0, cells := 0, slots := 0, locals := 0 }) (rm_checkIndex_17 l Z a0 hw [] vv0 h0 n0 Z0 hvv0) (by decide) (W := 0) (by decide) (by decide) (by decide) e1 (by rw [hml]; rfl) (argsL := [(.int (9 : Int32)), (.int (12 : Int32)), vv0]) (lenOf own_pd5 rfl) (rest := []) rfl rfl (Nat.le_of_eq rfl) (hb hby own_d_jdk_42_method_155_code_5) ?_
  intro _ T2 L2 X2 hQ2
  obtain ⟨rfl, N2q, e2⟩ := hQ2
  have N2 := Fr.app N0 N2q
  show own_Go p e below _ (T2.setTop (mkF m 8 #[.val (.int (9 : Int32)), .val (.int (12 : Int32))] [(.int (9 : Int32))]))
  refine own_go (fun _ hr => XS.pop X2.here hx rfl (hb hby own_d_jdk_42_method_155_code_8) rfl rfl hr) ?_
  show own_Go p e below _ (T2.setTop (mkF m 9 #[.val (.int (9 : Int32)), .val (.int (12 : Int32))] []))
  exact own_ret0 X2 hx hlk Bd.returns (hb hby own_d_jdk_42_method_155_code_9) (by decide) (by decide) ⟨rfl, N2, e2⟩
def Q_charAt_19 (Z : State) (h0 : Heap) (n0 : Nat) (v : Option Value) (h : Heap) (L : List Loc) : Prop := v = some (.int (121 : Int32)) ∧ Fr n0 L ∧ h = h0
set_option maxRecDepth 65536 in
set_option maxHeartbeats 40000000 in
theorem rm_charAt_19 (l : Launch) (Z : State) (a0 : Array Value) (hw : ∀ d ∈ tables_1, d.before a0 Z = true) (ws : List Jvm.Cond) (o0 : Addr) (kc0 : ClassId) (vv0 : Value) (h0 : Heap) (n0 : Nat) (Z0 : n0 ≤ h0.size) (P0 : Arv Z h0 o0 kc0 .byte (12 : Int32) [(.int (103 : Int32)), (.int (97 : Int32)), (.int (115 : Int32)), (.int (95 : Int32)), (.int (112 : Int32)), (.int (97 : Int32)), (.int (114 : Int32)), (.int (116 : Int32)), (.int (95 : Int32)), (.int (121 : Int32)), (.int (101 : Int32)), (.int (110 : Int32))] (.int (0 : Int32))) (P1 : Sta Z h0 "jdk/internal/util/Preconditions" "SIOOBE_FORMATTER" "Ljava/util/function/BiFunction;" vv0) (hvv0 : vv0.isRef = true) :
    MetFree l (⟨"java/lang/StringLatin1", "charAt", "([BI)C"⟩ : MethodName) (head1 (Jvm.Cond.code (⟨"java/lang/StringLatin1", "charAt", "([BI)C"⟩ : MethodName) jdk_43_method_2_code 2 (some .char) :: ws) ({ frames := 2, cells := 0, slots := 0, locals := 27 } : Room)) (fun aA U => aA = #[(.ref o0), (.int (9 : Int32))] ∧ Z.Warmed39 U.vm ∧ U.heap = h0) (fun _ _ _ _ _ => True) (fun _ U o U' => ∃ v L, o = .returned v ∧ Q_charAt_19 Z h0 n0 v U'.heap L ∧ FrameEnd U o U' L ({ frames := 2, cells := 0, slots := 0, locals := 27 } : Room).cells ({ frames := 2, cells := 0, slots := 0, locals := 27 } : Room).slots) := by
  refine MetFree.of_bodySF (plainFor_of_name own_pn_java_lang_StringLatin1) hisR ?_
  intro p e s m args below meth c s₁ Bd hml0 hP hK
  obtain ⟨rfl, hZ, hh⟩ := hP
  have hx := Bd.exec
  have hby := Bd.bytes
  have hlk : meth.locks = false := BodyLoose.notSynchronized Bd
  have hml : c.maxLocals = 2 := hml0
  have hown : s.vm.findClass "java/lang/StringLatin1" = some m.cls := findClass_of_methodNamed Bd.named
  have hnm := (name_of_methodNamed Bd.named Bd.method).1
  have X0 : Stand p l e ({ frames := 2, cells := 0, slots := 0, locals := 27 } : Room) s m #[(.ref o0), (.int (9 : Int32))] below meth c s₁ [] 0 0 := Stand.of_body Bd
  have e0 : s₁.heap = h0 := by rw [← hh, Bd.state]; rfl
  have N0 := Fr.nil n0
  show own_Go p e below (own_K s (Q_charAt_19 Z h0 n0) ({ frames := 2, cells := 0, slots := 0, locals := 27 } : Room).cells ({ frames := 2, cells := 0, slots := 0, locals := 27 } : Room).slots) (s₁.setTop (entryFrame m #[(.ref o0), (.int (9 : Int32))] 2))
  rw [(by first | (simp [entryFrame, mkF, argsToLocals, Value.category]; done) | rfl : entryFrame m #[(.ref o0), (.int (9 : Int32))] 2 = mkF m 0 #[.val (.ref o0), .val (.int (9 : Int32))] [])]
  show own_Go p e below _ (s₁.setTop (mkF m 0 #[.val (.ref o0), .val (.int (9 : Int32))] []))
  refine own_go (fun _ hr => XS.iloadN X0.here hx rfl (hb hby own_d_jdk_43_method_2_code_0) rfl (XS.aloadN X0.here hx rfl (hb hby own_d_jdk_43_method_2_code_1) rfl rfl (own_alen X0 hx hZ e0 P0 rfl rfl (hb hby own_d_jdk_43_method_2_code_2) hr))) ?_
  show own_Go p e below _ (s₁.setTop (mkF m 3 #[.val (.ref o0), .val (.int (9 : Int32))] [(.int (12 : Int32)), (.int (9 : Int32))]))
  refine own_cs X0 hx hZ hown (hw _ (own_m 47 rfl)) (hw _ (own_m 48 rfl)) (hw _ (own_m 21 rfl)) (hw _ (own_m 49 rfl)) (by decide) (rm := { frames := 1, cells := 0, slots := 0, locals := 14 }) (rm_checkIndex_18 l Z a0 hw [] vv0 h0 n0 Z0 P1 hvv0) (by decide) (W := 0) (by decide) (by decide) (by decide) e0 (by rw [hml]; rfl) (argsL := [(.int (9 : Int32)), (.int (12 : Int32))]) (lenOf own_pd6 rfl) (rest := []) rfl rfl (Nat.le_of_eq rfl) (hb hby own_d_jdk_43_method_2_code_3) ?_
  intro _ T1 L1 X1 hQ1
  obtain ⟨rfl, N1q, e1⟩ := hQ1
  have N1 := Fr.app N0 N1q
  show own_Go p e below _ (T1.setTop (mkF m 6 #[.val (.ref o0), .val (.int (9 : Int32))] []))
  refine own_go (fun _ hr => XS.aloadN X1.here hx rfl (hb hby own_d_jdk_43_method_2_code_6) rfl rfl (XS.iloadN X1.here hx rfl (hb hby own_d_jdk_43_method_2_code_7) rfl (own_baload X1 hx hZ e1 P0 (9 : Int32) (.int (121 : Int32)) ⟨by decide, by decide⟩ rfl rfl rfl (hb hby own_d_jdk_43_method_2_code_8) (XS.sipush X1.here hx rfl (hb hby own_d_jdk_43_method_2_code_9) (XS.iand X1.here hx rfl (hb hby own_d_jdk_43_method_2_code_12) rfl (XS.i2c X1.here hx rfl (hb hby own_d_jdk_43_method_2_code_13) rfl hr)))))) ?_
  show own_Go p e below _ (T1.setTop (mkF m 14 #[.val (.ref o0), .val (.int (9 : Int32))] [(.int (121 : Int32))]))
  exact own_retN X1 hx hlk Bd.returns (t := .char) (by simp) (hb hby own_d_jdk_43_method_2_code_14) (by decide) (by decide) ⟨rfl, N1, e1⟩
def Q_charAt_20 (Z : State) (h0 : Heap) (n0 : Nat) (v : Option Value) (h : Heap) (L : List Loc) : Prop := v = some (.int (121 : Int32)) ∧ Fr n0 L ∧ h = h0
set_option maxRecDepth 65536 in
set_option maxHeartbeats 40000000 in
theorem rm_charAt_20 (l : Launch) (Z : State) (a0 : Array Value) (hw : ∀ d ∈ tables_1, d.before a0 Z = true) (ws : List Jvm.Cond) (o0 : Addr) (y0 : Int32) (o1 : Addr) (kc0 : ClassId) (vv0 : Value) (h0 : Heap) (n0 : Nat) (Z0 : n0 ≤ h0.size) (P0 : Sta Z h0 "java/lang/String" "COMPACT_STRINGS" "Z" (.int y0)) (P1 : Fld Z h0 o0 "java/lang/String" "coder" "B" (.int (0 : Int32))) (P2 : Exa Z h0 o0 "java/lang/String") (P3 : Fld Z h0 o0 "java/lang/String" "value" "[B" (.ref o1)) (P4 : Arv Z h0 o1 kc0 .byte (12 : Int32) [(.int (103 : Int32)), (.int (97 : Int32)), (.int (115 : Int32)), (.int (95 : Int32)), (.int (112 : Int32)), (.int (97 : Int32)), (.int (114 : Int32)), (.int (116 : Int32)), (.int (95 : Int32)), (.int (121 : Int32)), (.int (101 : Int32)), (.int (110 : Int32))] (.int (0 : Int32))) (P5 : Sta Z h0 "jdk/internal/util/Preconditions" "SIOOBE_FORMATTER" "Ljava/util/function/BiFunction;" vv0) (hvv0 : vv0.isRef = true) (hb0 : ¬ (y0 = (0 : Int32))) :
    MetFree l (⟨"java/lang/String", "charAt", "(I)C"⟩ : MethodName) (head1 (Jvm.Cond.code (⟨"java/lang/String", "charAt", "(I)C"⟩ : MethodName) jdk_42_method_56_code 2 (some .char) :: ws) ({ frames := 3, cells := 0, slots := 0, locals := 40 } : Room)) (fun aA U => aA = #[(.ref o0), (.int (9 : Int32))] ∧ Z.Warmed39 U.vm ∧ U.heap = h0) (fun _ _ _ _ _ => True) (fun _ U o U' => ∃ v L, o = .returned v ∧ Q_charAt_20 Z h0 n0 v U'.heap L ∧ FrameEnd U o U' L ({ frames := 3, cells := 0, slots := 0, locals := 40 } : Room).cells ({ frames := 3, cells := 0, slots := 0, locals := 40 } : Room).slots) := by
  refine MetFree.of_bodySF (plainFor_of_name own_pn_java_lang_String) hisR ?_
  intro p e s m args below meth c s₁ Bd hml0 hP hK
  obtain ⟨rfl, hZ, hh⟩ := hP
  have hx := Bd.exec
  have hby := Bd.bytes
  have hlk : meth.locks = false := BodyLoose.notSynchronized Bd
  have hml : c.maxLocals = 2 := hml0
  have hown : s.vm.findClass "java/lang/String" = some m.cls := findClass_of_methodNamed Bd.named
  have hnm := (name_of_methodNamed Bd.named Bd.method).1
  have X0 : Stand p l e ({ frames := 3, cells := 0, slots := 0, locals := 40 } : Room) s m #[(.ref o0), (.int (9 : Int32))] below meth c s₁ [] 0 0 := Stand.of_body Bd
  have e0 : s₁.heap = h0 := by rw [← hh, Bd.state]; rfl
  have N0 := Fr.nil n0
  show own_Go p e below (own_K s (Q_charAt_20 Z h0 n0) ({ frames := 3, cells := 0, slots := 0, locals := 40 } : Room).cells ({ frames := 3, cells := 0, slots := 0, locals := 40 } : Room).slots) (s₁.setTop (entryFrame m #[(.ref o0), (.int (9 : Int32))] 2))
  rw [(by first | (simp [entryFrame, mkF, argsToLocals, Value.category]; done) | rfl : entryFrame m #[(.ref o0), (.int (9 : Int32))] 2 = mkF m 0 #[.val (.ref o0), .val (.int (9 : Int32))] [])]
  show own_Go p e below _ (s₁.setTop (mkF m 0 #[.val (.ref o0), .val (.int (9 : Int32))] []))
  refine own_go (fun _ hr => XS.aloadN X0.here hx rfl (hb hby own_d_jdk_42_method_56_code_0) rfl rfl hr) ?_
  show own_Go p e below _ (s₁.setTop (mkF m 1 #[.val (.ref o0), .val (.int (9 : Int32))] [(.ref o0)]))
  refine own_cv X0 hx hZ hown (notFace_of_selects (args := #[]) (mvT hZ (hw _ (own_m 41 rfl)))) (hw _ (own_m 38 rfl)) (hw _ (own_m 39 rfl)) (hw _ (own_m 41 rfl)) (hw _ (own_m 40 rfl)) (hw _ (own_m 21 rfl)) (hw _ (own_m 42 rfl)) (by decide) P2 (rm := { frames := 0, cells := 0, slots := 0, locals := 0 }) (rm_isLatin1_4 l Z a0 hw [] o0 y0 h0 n0 Z0 P0 P1 hb0) (by decide) (W := 0) (by decide) (by decide) (by decide) e0 (by rw [hml]; rfl) (argsL := []) (lenOf own_pd4 rfl) (rest := []) rfl rfl (Nat.le_of_eq rfl) (hb hby own_d_jdk_42_method_56_code_1) ?_
  intro _ T1 L1 X1 hQ1
  obtain ⟨rfl, N1q, e1⟩ := hQ1
  have N1 := Fr.app N0 N1q
  show own_Go p e below _ (T1.setTop (mkF m 4 #[.val (.ref o0), .val (.int (9 : Int32))] [(.int (1 : Int32))]))
  refine own_go (fun _ hr => XS.ifNo X1.here hx rfl (hb hby own_d_jdk_42_method_56_code_4) rfl ((if0 _ _).trans (feq (by decide)).1) (XS.aloadN X1.here hx rfl (hb hby own_d_jdk_42_method_56_code_7) rfl rfl hr)) ?_
  show own_Go p e below _ (T1.setTop (mkF m 8 #[.val (.ref o0), .val (.int (9 : Int32))] [(.ref o0)]))
  obtain ⟨T2, X2, e2, st2⟩ := getF X1 hx hZ hown (host := "") (Or.inl (hw _ (own_m 23 rfl))) Via.refl e1 P3 (g := (mkF m 8 #[.val (.ref o0), .val (.int (9 : Int32))] [(.ref o0)])) rfl rfl (hb hby own_d_jdk_42_method_56_code_8)
  refine own_go st2 ?_
  show own_Go p e below _ (T2.setTop (mkF m 11 #[.val (.ref o0), .val (.int (9 : Int32))] [(.ref o1)]))
  refine own_go (fun _ hr => XS.iloadN X2.here hx rfl (hb hby own_d_jdk_42_method_56_code_11) rfl hr) ?_
  show own_Go p e below _ (T2.setTop (mkF m 12 #[.val (.ref o0), .val (.int (9 : Int32))] [(.int (9 : Int32)), (.ref o1)]))
  refine own_cs X2 hx hZ hown (hw _ (own_m 43 rfl)) (hw _ (own_m 44 rfl)) (hw _ (own_m 45 rfl)) (hw _ (own_m 46 rfl)) (by decide) (rm := { frames := 2, cells := 0, slots := 0, locals := 27 }) (rm_charAt_19 l Z a0 hw [] o1 kc0 vv0 h0 n0 Z0 P4 P5 hvv0) (by decide) (W := 0) (by decide) (by decide) (by decide) e2 (by rw [hml]; rfl) (argsL := [(.ref o1), (.int (9 : Int32))]) (lenOf own_pd7 rfl) (rest := []) rfl rfl (Nat.le_of_eq rfl) (hb hby own_d_jdk_42_method_56_code_12) ?_
  intro _ T3 L3 X3 hQ3
  obtain ⟨rfl, N3q, e3⟩ := hQ3
  have N3 := Fr.app N1 N3q
  show own_Go p e below _ (T3.setTop (mkF m 15 #[.val (.ref o0), .val (.int (9 : Int32))] [(.int (121 : Int32))]))
  exact own_retN X3 hx hlk Bd.returns (t := .char) (by simp) (hb hby own_d_jdk_42_method_56_code_15) (by decide) (by decide) ⟨rfl, N3, e3⟩
theorem own_d_method_3_code_29 : decode method_3_code 29 = .ok (.bipush 121, 2) := by decide +kernel
theorem own_d_method_3_code_31 : decode method_3_code 31 = .ok (.if_icmp .ne 31, 3) := by decide +kernel
theorem own_d_method_3_code_34 : decode method_3_code 34 = .ok (.aload_n 0, 1) := by decide +kernel
theorem own_d_method_3_code_35 : decode method_3_code 35 = .ok (.iload_n 1, 1) := by decide +kernel
theorem own_d_method_3_code_36 : decode method_3_code 36 = .ok (.iconst 2, 1) := by decide +kernel
theorem own_d_method_3_code_37 : decode method_3_code 37 = .ok (.isub, 1) := by decide +kernel
theorem own_d_method_3_code_38 : decode method_3_code 38 = .ok (.invokevirtual 28, 3) := by decide +kernel
def Q_checkIndex_21 (Z : State) (h0 : Heap) (n0 : Nat) (v : Option Value) (h : Heap) (L : List Loc) : Prop := v = some (.int (10 : Int32)) ∧ Fr n0 L ∧ h = h0
set_option maxRecDepth 65536 in
set_option maxHeartbeats 40000000 in
theorem rm_checkIndex_21 (l : Launch) (Z : State) (a0 : Array Value) (hw : ∀ d ∈ tables_1, d.before a0 Z = true) (ws : List Jvm.Cond) (vv0 : Value) (h0 : Heap) (n0 : Nat) (Z0 : n0 ≤ h0.size) (hvv0 : vv0.isRef = true) :
    MetFree l (⟨"jdk/internal/util/Preconditions", "checkIndex", "(IILjava/util/function/BiFunction;)I"⟩ : MethodName) (head1 (Jvm.Cond.code (⟨"jdk/internal/util/Preconditions", "checkIndex", "(IILjava/util/function/BiFunction;)I"⟩ : MethodName) jdk_41_method_11_code 3 (some .int) :: ws) ({ frames := 0, cells := 0, slots := 0, locals := 0 } : Room)) (fun aA U => aA = #[(.int (10 : Int32)), (.int (12 : Int32)), vv0] ∧ Z.Warmed39 U.vm ∧ U.heap = h0) (fun _ _ _ _ _ => True) (fun _ U o U' => ∃ v L, o = .returned v ∧ Q_checkIndex_21 Z h0 n0 v U'.heap L ∧ FrameEnd U o U' L ({ frames := 0, cells := 0, slots := 0, locals := 0 } : Room).cells ({ frames := 0, cells := 0, slots := 0, locals := 0 } : Room).slots) := by
  refine MetFree.of_bodySF (plainFor_of_name own_pn_jdk_internal_util_Preconditions) hisR ?_
  intro p e s m args below meth c s₁ Bd hml0 hP hK
  obtain ⟨rfl, hZ, hh⟩ := hP
  have hx := Bd.exec
  have hby := Bd.bytes
  have hlk : meth.locks = false := BodyLoose.notSynchronized Bd
  have hml : c.maxLocals = 3 := hml0
  have hown : s.vm.findClass "jdk/internal/util/Preconditions" = some m.cls := findClass_of_methodNamed Bd.named
  have hnm := (name_of_methodNamed Bd.named Bd.method).1
  have X0 : Stand p l e ({ frames := 0, cells := 0, slots := 0, locals := 0 } : Room) s m #[(.int (10 : Int32)), (.int (12 : Int32)), vv0] below meth c s₁ [] 0 0 := Stand.of_body Bd
  have e0 : s₁.heap = h0 := by rw [← hh, Bd.state]; rfl
  have N0 := Fr.nil n0
  show own_Go p e below (own_K s (Q_checkIndex_21 Z h0 n0) ({ frames := 0, cells := 0, slots := 0, locals := 0 } : Room).cells ({ frames := 0, cells := 0, slots := 0, locals := 0 } : Room).slots) (s₁.setTop (entryFrame m #[(.int (10 : Int32)), (.int (12 : Int32)), vv0] 3))
  rw [(by first | (simp [entryFrame, mkF, argsToLocals, Value.category]; done) | (have q := hvv0; revert q; cases vv0 <;> simp [entryFrame, mkF, argsToLocals, Value.category, Value.isRef]) | rfl : entryFrame m #[(.int (10 : Int32)), (.int (12 : Int32)), vv0] 3 = mkF m 0 #[.val (.int (10 : Int32)), .val (.int (12 : Int32)), .val vv0] [])]
  show own_Go p e below _ (s₁.setTop (mkF m 0 #[.val (.int (10 : Int32)), .val (.int (12 : Int32)), .val vv0] []))
  refine own_go (fun _ hr => XS.iloadN X0.here hx rfl (hb hby own_d_jdk_41_method_11_code_0) rfl (XS.ifNo X0.here hx rfl (hb hby own_d_jdk_41_method_11_code_1) rfl ((if0 _ _).trans (flt (by decide)).1) (XS.iloadN X0.here hx rfl (hb hby own_d_jdk_41_method_11_code_4) rfl (XS.iloadN X0.here hx rfl (hb hby own_d_jdk_41_method_11_code_5) rfl (XS.icmpYes X0.here hx rfl (pc0 := 6) (pc' := 16) rfl (hb hby own_d_jdk_41_method_11_code_6) rfl (tlt (by decide)).1 (by decide) (by decide) (XS.iloadN X0.here hx rfl (hb hby own_d_jdk_41_method_11_code_16) rfl hr)))))) ?_
  show own_Go p e below _ (s₁.setTop (mkF m 17 #[.val (.int (10 : Int32)), .val (.int (12 : Int32)), .val vv0] [(.int (10 : Int32))]))
  exact own_retI X0 hx hlk Bd.returns (hb hby own_d_jdk_41_method_11_code_17) (by decide) (by decide) ⟨rfl, N0, e0⟩
def Q_checkIndex_22 (Z : State) (h0 : Heap) (n0 : Nat) (v : Option Value) (h : Heap) (L : List Loc) : Prop := v = none ∧ Fr n0 L ∧ h = h0
set_option maxRecDepth 65536 in
set_option maxHeartbeats 40000000 in
theorem rm_checkIndex_22 (l : Launch) (Z : State) (a0 : Array Value) (hw : ∀ d ∈ tables_1, d.before a0 Z = true) (ws : List Jvm.Cond) (vv0 : Value) (h0 : Heap) (n0 : Nat) (Z0 : n0 ≤ h0.size) (P0 : Sta Z h0 "jdk/internal/util/Preconditions" "SIOOBE_FORMATTER" "Ljava/util/function/BiFunction;" vv0) (hvv0 : vv0.isRef = true) :
    MetFree l (⟨"java/lang/String", "checkIndex", "(II)V"⟩ : MethodName) (head1 (Jvm.Cond.code (⟨"java/lang/String", "checkIndex", "(II)V"⟩ : MethodName) jdk_42_method_155_code 2 none :: ws) ({ frames := 1, cells := 0, slots := 0, locals := 14 } : Room)) (fun aA U => aA = #[(.int (10 : Int32)), (.int (12 : Int32))] ∧ Z.Warmed39 U.vm ∧ U.heap = h0) (fun _ _ _ _ _ => True) (fun _ U o U' => ∃ v L, o = .returned v ∧ Q_checkIndex_22 Z h0 n0 v U'.heap L ∧ FrameEnd U o U' L ({ frames := 1, cells := 0, slots := 0, locals := 14 } : Room).cells ({ frames := 1, cells := 0, slots := 0, locals := 14 } : Room).slots) := by
  refine MetFree.of_bodySF (plainFor_of_name own_pn_java_lang_String) hisR ?_
  intro p e s m args below meth c s₁ Bd hml0 hP hK
  obtain ⟨rfl, hZ, hh⟩ := hP
  have hx := Bd.exec
  have hby := Bd.bytes
  have hlk : meth.locks = false := BodyLoose.notSynchronized Bd
  have hml : c.maxLocals = 2 := hml0
  have hown : s.vm.findClass "java/lang/String" = some m.cls := findClass_of_methodNamed Bd.named
  have hnm := (name_of_methodNamed Bd.named Bd.method).1
  have X0 : Stand p l e ({ frames := 1, cells := 0, slots := 0, locals := 14 } : Room) s m #[(.int (10 : Int32)), (.int (12 : Int32))] below meth c s₁ [] 0 0 := Stand.of_body Bd
  have e0 : s₁.heap = h0 := by rw [← hh, Bd.state]; rfl
  have N0 := Fr.nil n0
  show own_Go p e below (own_K s (Q_checkIndex_22 Z h0 n0) ({ frames := 1, cells := 0, slots := 0, locals := 14 } : Room).cells ({ frames := 1, cells := 0, slots := 0, locals := 14 } : Room).slots) (s₁.setTop (entryFrame m #[(.int (10 : Int32)), (.int (12 : Int32))] 2))
  rw [(by first | (simp [entryFrame, mkF, argsToLocals, Value.category]; done) | rfl : entryFrame m #[(.int (10 : Int32)), (.int (12 : Int32))] 2 = mkF m 0 #[.val (.int (10 : Int32)), .val (.int (12 : Int32))] [])]
  show own_Go p e below _ (s₁.setTop (mkF m 0 #[.val (.int (10 : Int32)), .val (.int (12 : Int32))] []))
  refine own_go (fun _ hr => XS.iloadN X0.here hx rfl (hb hby own_d_jdk_42_method_155_code_0) rfl (XS.iloadN X0.here hx rfl (hb hby own_d_jdk_42_method_155_code_1) rfl hr)) ?_
  show own_Go p e below _ (s₁.setTop (mkF m 2 #[.val (.int (10 : Int32)), .val (.int (12 : Int32))] [(.int (12 : Int32)), (.int (10 : Int32))]))
  obtain ⟨T1, X1, e1, st1⟩ := getS2 X0 hx hZ hown (host := "") (Or.inl (hw _ (own_m 50 rfl))) Via.refl e0 P0 (g := (mkF m 2 #[.val (.int (10 : Int32)), .val (.int (12 : Int32))] [(.int (12 : Int32)), (.int (10 : Int32))])) rfl (hb hby own_d_jdk_42_method_155_code_2)
  refine own_go st1 ?_
  show own_Go p e below _ (T1.setTop (mkF m 5 #[.val (.int (10 : Int32)), .val (.int (12 : Int32))] [vv0, (.int (12 : Int32)), (.int (10 : Int32))]))
  refine own_cs X1 hx hZ hown (hw _ (own_m 52 rfl)) (hw _ (own_m 53 rfl)) (hw _ (own_m 51 rfl)) (hw _ (own_m 54 rfl)) (by decide) (rm := { frames := 0, cells := 0, slots := 0, locals := 0 }) (rm_checkIndex_21 l Z a0 hw [] vv0 h0 n0 Z0 hvv0) (by decide) (W := 0) (by decide) (by decide) (by decide) e1 (by rw [hml]; rfl) (argsL := [(.int (10 : Int32)), (.int (12 : Int32)), vv0]) (lenOf own_pd5 rfl) (rest := []) rfl rfl (Nat.le_of_eq rfl) (hb hby own_d_jdk_42_method_155_code_5) ?_
  intro _ T2 L2 X2 hQ2
  obtain ⟨rfl, N2q, e2⟩ := hQ2
  have N2 := Fr.app N0 N2q
  show own_Go p e below _ (T2.setTop (mkF m 8 #[.val (.int (10 : Int32)), .val (.int (12 : Int32))] [(.int (10 : Int32))]))
  refine own_go (fun _ hr => XS.pop X2.here hx rfl (hb hby own_d_jdk_42_method_155_code_8) rfl rfl hr) ?_
  show own_Go p e below _ (T2.setTop (mkF m 9 #[.val (.int (10 : Int32)), .val (.int (12 : Int32))] []))
  exact own_ret0 X2 hx hlk Bd.returns (hb hby own_d_jdk_42_method_155_code_9) (by decide) (by decide) ⟨rfl, N2, e2⟩
def Q_charAt_23 (Z : State) (h0 : Heap) (n0 : Nat) (v : Option Value) (h : Heap) (L : List Loc) : Prop := v = some (.int (101 : Int32)) ∧ Fr n0 L ∧ h = h0
set_option maxRecDepth 65536 in
set_option maxHeartbeats 40000000 in
theorem rm_charAt_23 (l : Launch) (Z : State) (a0 : Array Value) (hw : ∀ d ∈ tables_1, d.before a0 Z = true) (ws : List Jvm.Cond) (o0 : Addr) (kc0 : ClassId) (vv0 : Value) (h0 : Heap) (n0 : Nat) (Z0 : n0 ≤ h0.size) (P0 : Arv Z h0 o0 kc0 .byte (12 : Int32) [(.int (103 : Int32)), (.int (97 : Int32)), (.int (115 : Int32)), (.int (95 : Int32)), (.int (112 : Int32)), (.int (97 : Int32)), (.int (114 : Int32)), (.int (116 : Int32)), (.int (95 : Int32)), (.int (121 : Int32)), (.int (101 : Int32)), (.int (110 : Int32))] (.int (0 : Int32))) (P1 : Sta Z h0 "jdk/internal/util/Preconditions" "SIOOBE_FORMATTER" "Ljava/util/function/BiFunction;" vv0) (hvv0 : vv0.isRef = true) :
    MetFree l (⟨"java/lang/StringLatin1", "charAt", "([BI)C"⟩ : MethodName) (head1 (Jvm.Cond.code (⟨"java/lang/StringLatin1", "charAt", "([BI)C"⟩ : MethodName) jdk_43_method_2_code 2 (some .char) :: ws) ({ frames := 2, cells := 0, slots := 0, locals := 27 } : Room)) (fun aA U => aA = #[(.ref o0), (.int (10 : Int32))] ∧ Z.Warmed39 U.vm ∧ U.heap = h0) (fun _ _ _ _ _ => True) (fun _ U o U' => ∃ v L, o = .returned v ∧ Q_charAt_23 Z h0 n0 v U'.heap L ∧ FrameEnd U o U' L ({ frames := 2, cells := 0, slots := 0, locals := 27 } : Room).cells ({ frames := 2, cells := 0, slots := 0, locals := 27 } : Room).slots) := by
  refine MetFree.of_bodySF (plainFor_of_name own_pn_java_lang_StringLatin1) hisR ?_
  intro p e s m args below meth c s₁ Bd hml0 hP hK
  obtain ⟨rfl, hZ, hh⟩ := hP
  have hx := Bd.exec
  have hby := Bd.bytes
  have hlk : meth.locks = false := BodyLoose.notSynchronized Bd
  have hml : c.maxLocals = 2 := hml0
  have hown : s.vm.findClass "java/lang/StringLatin1" = some m.cls := findClass_of_methodNamed Bd.named
  have hnm := (name_of_methodNamed Bd.named Bd.method).1
  have X0 : Stand p l e ({ frames := 2, cells := 0, slots := 0, locals := 27 } : Room) s m #[(.ref o0), (.int (10 : Int32))] below meth c s₁ [] 0 0 := Stand.of_body Bd
  have e0 : s₁.heap = h0 := by rw [← hh, Bd.state]; rfl
  have N0 := Fr.nil n0
  show own_Go p e below (own_K s (Q_charAt_23 Z h0 n0) ({ frames := 2, cells := 0, slots := 0, locals := 27 } : Room).cells ({ frames := 2, cells := 0, slots := 0, locals := 27 } : Room).slots) (s₁.setTop (entryFrame m #[(.ref o0), (.int (10 : Int32))] 2))
  rw [(by first | (simp [entryFrame, mkF, argsToLocals, Value.category]; done) | rfl : entryFrame m #[(.ref o0), (.int (10 : Int32))] 2 = mkF m 0 #[.val (.ref o0), .val (.int (10 : Int32))] [])]
  show own_Go p e below _ (s₁.setTop (mkF m 0 #[.val (.ref o0), .val (.int (10 : Int32))] []))
  refine own_go (fun _ hr => XS.iloadN X0.here hx rfl (hb hby own_d_jdk_43_method_2_code_0) rfl (XS.aloadN X0.here hx rfl (hb hby own_d_jdk_43_method_2_code_1) rfl rfl (own_alen X0 hx hZ e0 P0 rfl rfl (hb hby own_d_jdk_43_method_2_code_2) hr))) ?_
  show own_Go p e below _ (s₁.setTop (mkF m 3 #[.val (.ref o0), .val (.int (10 : Int32))] [(.int (12 : Int32)), (.int (10 : Int32))]))
  refine own_cs X0 hx hZ hown (hw _ (own_m 47 rfl)) (hw _ (own_m 48 rfl)) (hw _ (own_m 21 rfl)) (hw _ (own_m 49 rfl)) (by decide) (rm := { frames := 1, cells := 0, slots := 0, locals := 14 }) (rm_checkIndex_22 l Z a0 hw [] vv0 h0 n0 Z0 P1 hvv0) (by decide) (W := 0) (by decide) (by decide) (by decide) e0 (by rw [hml]; rfl) (argsL := [(.int (10 : Int32)), (.int (12 : Int32))]) (lenOf own_pd6 rfl) (rest := []) rfl rfl (Nat.le_of_eq rfl) (hb hby own_d_jdk_43_method_2_code_3) ?_
  intro _ T1 L1 X1 hQ1
  obtain ⟨rfl, N1q, e1⟩ := hQ1
  have N1 := Fr.app N0 N1q
  show own_Go p e below _ (T1.setTop (mkF m 6 #[.val (.ref o0), .val (.int (10 : Int32))] []))
  refine own_go (fun _ hr => XS.aloadN X1.here hx rfl (hb hby own_d_jdk_43_method_2_code_6) rfl rfl (XS.iloadN X1.here hx rfl (hb hby own_d_jdk_43_method_2_code_7) rfl (own_baload X1 hx hZ e1 P0 (10 : Int32) (.int (101 : Int32)) ⟨by decide, by decide⟩ rfl rfl rfl (hb hby own_d_jdk_43_method_2_code_8) (XS.sipush X1.here hx rfl (hb hby own_d_jdk_43_method_2_code_9) (XS.iand X1.here hx rfl (hb hby own_d_jdk_43_method_2_code_12) rfl (XS.i2c X1.here hx rfl (hb hby own_d_jdk_43_method_2_code_13) rfl hr)))))) ?_
  show own_Go p e below _ (T1.setTop (mkF m 14 #[.val (.ref o0), .val (.int (10 : Int32))] [(.int (101 : Int32))]))
  exact own_retN X1 hx hlk Bd.returns (t := .char) (by simp) (hb hby own_d_jdk_43_method_2_code_14) (by decide) (by decide) ⟨rfl, N1, e1⟩
def Q_charAt_24 (Z : State) (h0 : Heap) (n0 : Nat) (v : Option Value) (h : Heap) (L : List Loc) : Prop := v = some (.int (101 : Int32)) ∧ Fr n0 L ∧ h = h0
set_option maxRecDepth 65536 in
set_option maxHeartbeats 40000000 in
theorem rm_charAt_24 (l : Launch) (Z : State) (a0 : Array Value) (hw : ∀ d ∈ tables_1, d.before a0 Z = true) (ws : List Jvm.Cond) (o0 : Addr) (y0 : Int32) (o1 : Addr) (kc0 : ClassId) (vv0 : Value) (h0 : Heap) (n0 : Nat) (Z0 : n0 ≤ h0.size) (P0 : Sta Z h0 "java/lang/String" "COMPACT_STRINGS" "Z" (.int y0)) (P1 : Fld Z h0 o0 "java/lang/String" "coder" "B" (.int (0 : Int32))) (P2 : Exa Z h0 o0 "java/lang/String") (P3 : Fld Z h0 o0 "java/lang/String" "value" "[B" (.ref o1)) (P4 : Arv Z h0 o1 kc0 .byte (12 : Int32) [(.int (103 : Int32)), (.int (97 : Int32)), (.int (115 : Int32)), (.int (95 : Int32)), (.int (112 : Int32)), (.int (97 : Int32)), (.int (114 : Int32)), (.int (116 : Int32)), (.int (95 : Int32)), (.int (121 : Int32)), (.int (101 : Int32)), (.int (110 : Int32))] (.int (0 : Int32))) (P5 : Sta Z h0 "jdk/internal/util/Preconditions" "SIOOBE_FORMATTER" "Ljava/util/function/BiFunction;" vv0) (hvv0 : vv0.isRef = true) (hb0 : ¬ (y0 = (0 : Int32))) :
    MetFree l (⟨"java/lang/String", "charAt", "(I)C"⟩ : MethodName) (head1 (Jvm.Cond.code (⟨"java/lang/String", "charAt", "(I)C"⟩ : MethodName) jdk_42_method_56_code 2 (some .char) :: ws) ({ frames := 3, cells := 0, slots := 0, locals := 40 } : Room)) (fun aA U => aA = #[(.ref o0), (.int (10 : Int32))] ∧ Z.Warmed39 U.vm ∧ U.heap = h0) (fun _ _ _ _ _ => True) (fun _ U o U' => ∃ v L, o = .returned v ∧ Q_charAt_24 Z h0 n0 v U'.heap L ∧ FrameEnd U o U' L ({ frames := 3, cells := 0, slots := 0, locals := 40 } : Room).cells ({ frames := 3, cells := 0, slots := 0, locals := 40 } : Room).slots) := by
  refine MetFree.of_bodySF (plainFor_of_name own_pn_java_lang_String) hisR ?_
  intro p e s m args below meth c s₁ Bd hml0 hP hK
  obtain ⟨rfl, hZ, hh⟩ := hP
  have hx := Bd.exec
  have hby := Bd.bytes
  have hlk : meth.locks = false := BodyLoose.notSynchronized Bd
  have hml : c.maxLocals = 2 := hml0
  have hown : s.vm.findClass "java/lang/String" = some m.cls := findClass_of_methodNamed Bd.named
  have hnm := (name_of_methodNamed Bd.named Bd.method).1
  have X0 : Stand p l e ({ frames := 3, cells := 0, slots := 0, locals := 40 } : Room) s m #[(.ref o0), (.int (10 : Int32))] below meth c s₁ [] 0 0 := Stand.of_body Bd
  have e0 : s₁.heap = h0 := by rw [← hh, Bd.state]; rfl
  have N0 := Fr.nil n0
  show own_Go p e below (own_K s (Q_charAt_24 Z h0 n0) ({ frames := 3, cells := 0, slots := 0, locals := 40 } : Room).cells ({ frames := 3, cells := 0, slots := 0, locals := 40 } : Room).slots) (s₁.setTop (entryFrame m #[(.ref o0), (.int (10 : Int32))] 2))
  rw [(by first | (simp [entryFrame, mkF, argsToLocals, Value.category]; done) | rfl : entryFrame m #[(.ref o0), (.int (10 : Int32))] 2 = mkF m 0 #[.val (.ref o0), .val (.int (10 : Int32))] [])]
  show own_Go p e below _ (s₁.setTop (mkF m 0 #[.val (.ref o0), .val (.int (10 : Int32))] []))
  refine own_go (fun _ hr => XS.aloadN X0.here hx rfl (hb hby own_d_jdk_42_method_56_code_0) rfl rfl hr) ?_
  show own_Go p e below _ (s₁.setTop (mkF m 1 #[.val (.ref o0), .val (.int (10 : Int32))] [(.ref o0)]))
  refine own_cv X0 hx hZ hown (notFace_of_selects (args := #[]) (mvT hZ (hw _ (own_m 41 rfl)))) (hw _ (own_m 38 rfl)) (hw _ (own_m 39 rfl)) (hw _ (own_m 41 rfl)) (hw _ (own_m 40 rfl)) (hw _ (own_m 21 rfl)) (hw _ (own_m 42 rfl)) (by decide) P2 (rm := { frames := 0, cells := 0, slots := 0, locals := 0 }) (rm_isLatin1_4 l Z a0 hw [] o0 y0 h0 n0 Z0 P0 P1 hb0) (by decide) (W := 0) (by decide) (by decide) (by decide) e0 (by rw [hml]; rfl) (argsL := []) (lenOf own_pd4 rfl) (rest := []) rfl rfl (Nat.le_of_eq rfl) (hb hby own_d_jdk_42_method_56_code_1) ?_
  intro _ T1 L1 X1 hQ1
  obtain ⟨rfl, N1q, e1⟩ := hQ1
  have N1 := Fr.app N0 N1q
  show own_Go p e below _ (T1.setTop (mkF m 4 #[.val (.ref o0), .val (.int (10 : Int32))] [(.int (1 : Int32))]))
  refine own_go (fun _ hr => XS.ifNo X1.here hx rfl (hb hby own_d_jdk_42_method_56_code_4) rfl ((if0 _ _).trans (feq (by decide)).1) (XS.aloadN X1.here hx rfl (hb hby own_d_jdk_42_method_56_code_7) rfl rfl hr)) ?_
  show own_Go p e below _ (T1.setTop (mkF m 8 #[.val (.ref o0), .val (.int (10 : Int32))] [(.ref o0)]))
  obtain ⟨T2, X2, e2, st2⟩ := getF X1 hx hZ hown (host := "") (Or.inl (hw _ (own_m 23 rfl))) Via.refl e1 P3 (g := (mkF m 8 #[.val (.ref o0), .val (.int (10 : Int32))] [(.ref o0)])) rfl rfl (hb hby own_d_jdk_42_method_56_code_8)
  refine own_go st2 ?_
  show own_Go p e below _ (T2.setTop (mkF m 11 #[.val (.ref o0), .val (.int (10 : Int32))] [(.ref o1)]))
  refine own_go (fun _ hr => XS.iloadN X2.here hx rfl (hb hby own_d_jdk_42_method_56_code_11) rfl hr) ?_
  show own_Go p e below _ (T2.setTop (mkF m 12 #[.val (.ref o0), .val (.int (10 : Int32))] [(.int (10 : Int32)), (.ref o1)]))
  refine own_cs X2 hx hZ hown (hw _ (own_m 43 rfl)) (hw _ (own_m 44 rfl)) (hw _ (own_m 45 rfl)) (hw _ (own_m 46 rfl)) (by decide) (rm := { frames := 2, cells := 0, slots := 0, locals := 27 }) (rm_charAt_23 l Z a0 hw [] o1 kc0 vv0 h0 n0 Z0 P4 P5 hvv0) (by decide) (W := 0) (by decide) (by decide) (by decide) e2 (by rw [hml]; rfl) (argsL := [(.ref o1), (.int (10 : Int32))]) (lenOf own_pd7 rfl) (rest := []) rfl rfl (Nat.le_of_eq rfl) (hb hby own_d_jdk_42_method_56_code_12) ?_
  intro _ T3 L3 X3 hQ3
  obtain ⟨rfl, N3q, e3⟩ := hQ3
  have N3 := Fr.app N1 N3q
  show own_Go p e below _ (T3.setTop (mkF m 15 #[.val (.ref o0), .val (.int (10 : Int32))] [(.int (101 : Int32))]))
  exact own_retN X3 hx hlk Bd.returns (t := .char) (by simp) (hb hby own_d_jdk_42_method_56_code_15) (by decide) (by decide) ⟨rfl, N3, e3⟩
theorem own_d_method_3_code_41 : decode method_3_code 41 = .ok (.bipush 101, 2) := by decide +kernel
theorem own_d_method_3_code_43 : decode method_3_code 43 = .ok (.if_icmp .ne 19, 3) := by decide +kernel
theorem own_d_method_3_code_46 : decode method_3_code 46 = .ok (.aload_n 0, 1) := by decide +kernel
theorem own_d_method_3_code_47 : decode method_3_code 47 = .ok (.iload_n 1, 1) := by decide +kernel
theorem own_d_method_3_code_48 : decode method_3_code 48 = .ok (.iconst 1, 1) := by decide +kernel
theorem own_d_method_3_code_49 : decode method_3_code 49 = .ok (.isub, 1) := by decide +kernel
theorem own_d_method_3_code_50 : decode method_3_code 50 = .ok (.invokevirtual 28, 3) := by decide +kernel
def Q_checkIndex_25 (Z : State) (h0 : Heap) (n0 : Nat) (v : Option Value) (h : Heap) (L : List Loc) : Prop := v = some (.int (11 : Int32)) ∧ Fr n0 L ∧ h = h0
set_option maxRecDepth 65536 in
set_option maxHeartbeats 40000000 in
theorem rm_checkIndex_25 (l : Launch) (Z : State) (a0 : Array Value) (hw : ∀ d ∈ tables_1, d.before a0 Z = true) (ws : List Jvm.Cond) (vv0 : Value) (h0 : Heap) (n0 : Nat) (Z0 : n0 ≤ h0.size) (hvv0 : vv0.isRef = true) :
    MetFree l (⟨"jdk/internal/util/Preconditions", "checkIndex", "(IILjava/util/function/BiFunction;)I"⟩ : MethodName) (head1 (Jvm.Cond.code (⟨"jdk/internal/util/Preconditions", "checkIndex", "(IILjava/util/function/BiFunction;)I"⟩ : MethodName) jdk_41_method_11_code 3 (some .int) :: ws) ({ frames := 0, cells := 0, slots := 0, locals := 0 } : Room)) (fun aA U => aA = #[(.int (11 : Int32)), (.int (12 : Int32)), vv0] ∧ Z.Warmed39 U.vm ∧ U.heap = h0) (fun _ _ _ _ _ => True) (fun _ U o U' => ∃ v L, o = .returned v ∧ Q_checkIndex_25 Z h0 n0 v U'.heap L ∧ FrameEnd U o U' L ({ frames := 0, cells := 0, slots := 0, locals := 0 } : Room).cells ({ frames := 0, cells := 0, slots := 0, locals := 0 } : Room).slots) := by
  refine MetFree.of_bodySF (plainFor_of_name own_pn_jdk_internal_util_Preconditions) hisR ?_
  intro p e s m args below meth c s₁ Bd hml0 hP hK
  obtain ⟨rfl, hZ, hh⟩ := hP
  have hx := Bd.exec
  have hby := Bd.bytes
  have hlk : meth.locks = false := BodyLoose.notSynchronized Bd
  have hml : c.maxLocals = 3 := hml0
  have hown : s.vm.findClass "jdk/internal/util/Preconditions" = some m.cls := findClass_of_methodNamed Bd.named
  have hnm := (name_of_methodNamed Bd.named Bd.method).1
  have X0 : Stand p l e ({ frames := 0, cells := 0, slots := 0, locals := 0 } : Room) s m #[(.int (11 : Int32)), (.int (12 : Int32)), vv0] below meth c s₁ [] 0 0 := Stand.of_body Bd
  have e0 : s₁.heap = h0 := by rw [← hh, Bd.state]; rfl
  have N0 := Fr.nil n0
  show own_Go p e below (own_K s (Q_checkIndex_25 Z h0 n0) ({ frames := 0, cells := 0, slots := 0, locals := 0 } : Room).cells ({ frames := 0, cells := 0, slots := 0, locals := 0 } : Room).slots) (s₁.setTop (entryFrame m #[(.int (11 : Int32)), (.int (12 : Int32)), vv0] 3))
  rw [(by first | (simp [entryFrame, mkF, argsToLocals, Value.category]; done) | (have q := hvv0; revert q; cases vv0 <;> simp [entryFrame, mkF, argsToLocals, Value.category, Value.isRef]) | rfl : entryFrame m #[(.int (11 : Int32)), (.int (12 : Int32)), vv0] 3 = mkF m 0 #[.val (.int (11 : Int32)), .val (.int (12 : Int32)), .val vv0] [])]
  show own_Go p e below _ (s₁.setTop (mkF m 0 #[.val (.int (11 : Int32)), .val (.int (12 : Int32)), .val vv0] []))
  refine own_go (fun _ hr => XS.iloadN X0.here hx rfl (hb hby own_d_jdk_41_method_11_code_0) rfl (XS.ifNo X0.here hx rfl (hb hby own_d_jdk_41_method_11_code_1) rfl ((if0 _ _).trans (flt (by decide)).1) (XS.iloadN X0.here hx rfl (hb hby own_d_jdk_41_method_11_code_4) rfl (XS.iloadN X0.here hx rfl (hb hby own_d_jdk_41_method_11_code_5) rfl (XS.icmpYes X0.here hx rfl (pc0 := 6) (pc' := 16) rfl (hb hby own_d_jdk_41_method_11_code_6) rfl (tlt (by decide)).1 (by decide) (by decide) (XS.iloadN X0.here hx rfl (hb hby own_d_jdk_41_method_11_code_16) rfl hr)))))) ?_
  show own_Go p e below _ (s₁.setTop (mkF m 17 #[.val (.int (11 : Int32)), .val (.int (12 : Int32)), .val vv0] [(.int (11 : Int32))]))
  exact own_retI X0 hx hlk Bd.returns (hb hby own_d_jdk_41_method_11_code_17) (by decide) (by decide) ⟨rfl, N0, e0⟩
def Q_checkIndex_26 (Z : State) (h0 : Heap) (n0 : Nat) (v : Option Value) (h : Heap) (L : List Loc) : Prop := v = none ∧ Fr n0 L ∧ h = h0
set_option maxRecDepth 65536 in
set_option maxHeartbeats 40000000 in
theorem rm_checkIndex_26 (l : Launch) (Z : State) (a0 : Array Value) (hw : ∀ d ∈ tables_1, d.before a0 Z = true) (ws : List Jvm.Cond) (vv0 : Value) (h0 : Heap) (n0 : Nat) (Z0 : n0 ≤ h0.size) (P0 : Sta Z h0 "jdk/internal/util/Preconditions" "SIOOBE_FORMATTER" "Ljava/util/function/BiFunction;" vv0) (hvv0 : vv0.isRef = true) :
    MetFree l (⟨"java/lang/String", "checkIndex", "(II)V"⟩ : MethodName) (head1 (Jvm.Cond.code (⟨"java/lang/String", "checkIndex", "(II)V"⟩ : MethodName) jdk_42_method_155_code 2 none :: ws) ({ frames := 1, cells := 0, slots := 0, locals := 14 } : Room)) (fun aA U => aA = #[(.int (11 : Int32)), (.int (12 : Int32))] ∧ Z.Warmed39 U.vm ∧ U.heap = h0) (fun _ _ _ _ _ => True) (fun _ U o U' => ∃ v L, o = .returned v ∧ Q_checkIndex_26 Z h0 n0 v U'.heap L ∧ FrameEnd U o U' L ({ frames := 1, cells := 0, slots := 0, locals := 14 } : Room).cells ({ frames := 1, cells := 0, slots := 0, locals := 14 } : Room).slots) := by
  refine MetFree.of_bodySF (plainFor_of_name own_pn_java_lang_String) hisR ?_
  intro p e s m args below meth c s₁ Bd hml0 hP hK
  obtain ⟨rfl, hZ, hh⟩ := hP
  have hx := Bd.exec
  have hby := Bd.bytes
  have hlk : meth.locks = false := BodyLoose.notSynchronized Bd
  have hml : c.maxLocals = 2 := hml0
  have hown : s.vm.findClass "java/lang/String" = some m.cls := findClass_of_methodNamed Bd.named
  have hnm := (name_of_methodNamed Bd.named Bd.method).1
  have X0 : Stand p l e ({ frames := 1, cells := 0, slots := 0, locals := 14 } : Room) s m #[(.int (11 : Int32)), (.int (12 : Int32))] below meth c s₁ [] 0 0 := Stand.of_body Bd
  have e0 : s₁.heap = h0 := by rw [← hh, Bd.state]; rfl
  have N0 := Fr.nil n0
  show own_Go p e below (own_K s (Q_checkIndex_26 Z h0 n0) ({ frames := 1, cells := 0, slots := 0, locals := 14 } : Room).cells ({ frames := 1, cells := 0, slots := 0, locals := 14 } : Room).slots) (s₁.setTop (entryFrame m #[(.int (11 : Int32)), (.int (12 : Int32))] 2))
  rw [(by first | (simp [entryFrame, mkF, argsToLocals, Value.category]; done) | rfl : entryFrame m #[(.int (11 : Int32)), (.int (12 : Int32))] 2 = mkF m 0 #[.val (.int (11 : Int32)), .val (.int (12 : Int32))] [])]
  show own_Go p e below _ (s₁.setTop (mkF m 0 #[.val (.int (11 : Int32)), .val (.int (12 : Int32))] []))
  refine own_go (fun _ hr => XS.iloadN X0.here hx rfl (hb hby own_d_jdk_42_method_155_code_0) rfl (XS.iloadN X0.here hx rfl (hb hby own_d_jdk_42_method_155_code_1) rfl hr)) ?_
  show own_Go p e below _ (s₁.setTop (mkF m 2 #[.val (.int (11 : Int32)), .val (.int (12 : Int32))] [(.int (12 : Int32)), (.int (11 : Int32))]))
  obtain ⟨T1, X1, e1, st1⟩ := getS2 X0 hx hZ hown (host := "") (Or.inl (hw _ (own_m 50 rfl))) Via.refl e0 P0 (g := (mkF m 2 #[.val (.int (11 : Int32)), .val (.int (12 : Int32))] [(.int (12 : Int32)), (.int (11 : Int32))])) rfl (hb hby own_d_jdk_42_method_155_code_2)
  refine own_go st1 ?_
  show own_Go p e below _ (T1.setTop (mkF m 5 #[.val (.int (11 : Int32)), .val (.int (12 : Int32))] [vv0, (.int (12 : Int32)), (.int (11 : Int32))]))
  refine own_cs X1 hx hZ hown (hw _ (own_m 52 rfl)) (hw _ (own_m 53 rfl)) (hw _ (own_m 51 rfl)) (hw _ (own_m 54 rfl)) (by decide) (rm := { frames := 0, cells := 0, slots := 0, locals := 0 }) (rm_checkIndex_25 l Z a0 hw [] vv0 h0 n0 Z0 hvv0) (by decide) (W := 0) (by decide) (by decide) (by decide) e1 (by rw [hml]; rfl) (argsL := [(.int (11 : Int32)), (.int (12 : Int32)), vv0]) (lenOf own_pd5 rfl) (rest := []) rfl rfl (Nat.le_of_eq rfl) (hb hby own_d_jdk_42_method_155_code_5) ?_
  intro _ T2 L2 X2 hQ2
  obtain ⟨rfl, N2q, e2⟩ := hQ2
  have N2 := Fr.app N0 N2q
  show own_Go p e below _ (T2.setTop (mkF m 8 #[.val (.int (11 : Int32)), .val (.int (12 : Int32))] [(.int (11 : Int32))]))
  refine own_go (fun _ hr => XS.pop X2.here hx rfl (hb hby own_d_jdk_42_method_155_code_8) rfl rfl hr) ?_
  show own_Go p e below _ (T2.setTop (mkF m 9 #[.val (.int (11 : Int32)), .val (.int (12 : Int32))] []))
  exact own_ret0 X2 hx hlk Bd.returns (hb hby own_d_jdk_42_method_155_code_9) (by decide) (by decide) ⟨rfl, N2, e2⟩
def Q_charAt_27 (Z : State) (h0 : Heap) (n0 : Nat) (v : Option Value) (h : Heap) (L : List Loc) : Prop := v = some (.int (110 : Int32)) ∧ Fr n0 L ∧ h = h0
set_option maxRecDepth 65536 in
set_option maxHeartbeats 40000000 in
theorem rm_charAt_27 (l : Launch) (Z : State) (a0 : Array Value) (hw : ∀ d ∈ tables_1, d.before a0 Z = true) (ws : List Jvm.Cond) (o0 : Addr) (kc0 : ClassId) (vv0 : Value) (h0 : Heap) (n0 : Nat) (Z0 : n0 ≤ h0.size) (P0 : Arv Z h0 o0 kc0 .byte (12 : Int32) [(.int (103 : Int32)), (.int (97 : Int32)), (.int (115 : Int32)), (.int (95 : Int32)), (.int (112 : Int32)), (.int (97 : Int32)), (.int (114 : Int32)), (.int (116 : Int32)), (.int (95 : Int32)), (.int (121 : Int32)), (.int (101 : Int32)), (.int (110 : Int32))] (.int (0 : Int32))) (P1 : Sta Z h0 "jdk/internal/util/Preconditions" "SIOOBE_FORMATTER" "Ljava/util/function/BiFunction;" vv0) (hvv0 : vv0.isRef = true) :
    MetFree l (⟨"java/lang/StringLatin1", "charAt", "([BI)C"⟩ : MethodName) (head1 (Jvm.Cond.code (⟨"java/lang/StringLatin1", "charAt", "([BI)C"⟩ : MethodName) jdk_43_method_2_code 2 (some .char) :: ws) ({ frames := 2, cells := 0, slots := 0, locals := 27 } : Room)) (fun aA U => aA = #[(.ref o0), (.int (11 : Int32))] ∧ Z.Warmed39 U.vm ∧ U.heap = h0) (fun _ _ _ _ _ => True) (fun _ U o U' => ∃ v L, o = .returned v ∧ Q_charAt_27 Z h0 n0 v U'.heap L ∧ FrameEnd U o U' L ({ frames := 2, cells := 0, slots := 0, locals := 27 } : Room).cells ({ frames := 2, cells := 0, slots := 0, locals := 27 } : Room).slots) := by
  refine MetFree.of_bodySF (plainFor_of_name own_pn_java_lang_StringLatin1) hisR ?_
  intro p e s m args below meth c s₁ Bd hml0 hP hK
  obtain ⟨rfl, hZ, hh⟩ := hP
  have hx := Bd.exec
  have hby := Bd.bytes
  have hlk : meth.locks = false := BodyLoose.notSynchronized Bd
  have hml : c.maxLocals = 2 := hml0
  have hown : s.vm.findClass "java/lang/StringLatin1" = some m.cls := findClass_of_methodNamed Bd.named
  have hnm := (name_of_methodNamed Bd.named Bd.method).1
  have X0 : Stand p l e ({ frames := 2, cells := 0, slots := 0, locals := 27 } : Room) s m #[(.ref o0), (.int (11 : Int32))] below meth c s₁ [] 0 0 := Stand.of_body Bd
  have e0 : s₁.heap = h0 := by rw [← hh, Bd.state]; rfl
  have N0 := Fr.nil n0
  show own_Go p e below (own_K s (Q_charAt_27 Z h0 n0) ({ frames := 2, cells := 0, slots := 0, locals := 27 } : Room).cells ({ frames := 2, cells := 0, slots := 0, locals := 27 } : Room).slots) (s₁.setTop (entryFrame m #[(.ref o0), (.int (11 : Int32))] 2))
  rw [(by first | (simp [entryFrame, mkF, argsToLocals, Value.category]; done) | rfl : entryFrame m #[(.ref o0), (.int (11 : Int32))] 2 = mkF m 0 #[.val (.ref o0), .val (.int (11 : Int32))] [])]
  show own_Go p e below _ (s₁.setTop (mkF m 0 #[.val (.ref o0), .val (.int (11 : Int32))] []))
  refine own_go (fun _ hr => XS.iloadN X0.here hx rfl (hb hby own_d_jdk_43_method_2_code_0) rfl (XS.aloadN X0.here hx rfl (hb hby own_d_jdk_43_method_2_code_1) rfl rfl (own_alen X0 hx hZ e0 P0 rfl rfl (hb hby own_d_jdk_43_method_2_code_2) hr))) ?_
  show own_Go p e below _ (s₁.setTop (mkF m 3 #[.val (.ref o0), .val (.int (11 : Int32))] [(.int (12 : Int32)), (.int (11 : Int32))]))
  refine own_cs X0 hx hZ hown (hw _ (own_m 47 rfl)) (hw _ (own_m 48 rfl)) (hw _ (own_m 21 rfl)) (hw _ (own_m 49 rfl)) (by decide) (rm := { frames := 1, cells := 0, slots := 0, locals := 14 }) (rm_checkIndex_26 l Z a0 hw [] vv0 h0 n0 Z0 P1 hvv0) (by decide) (W := 0) (by decide) (by decide) (by decide) e0 (by rw [hml]; rfl) (argsL := [(.int (11 : Int32)), (.int (12 : Int32))]) (lenOf own_pd6 rfl) (rest := []) rfl rfl (Nat.le_of_eq rfl) (hb hby own_d_jdk_43_method_2_code_3) ?_
  intro _ T1 L1 X1 hQ1
  obtain ⟨rfl, N1q, e1⟩ := hQ1
  have N1 := Fr.app N0 N1q
  show own_Go p e below _ (T1.setTop (mkF m 6 #[.val (.ref o0), .val (.int (11 : Int32))] []))
  refine own_go (fun _ hr => XS.aloadN X1.here hx rfl (hb hby own_d_jdk_43_method_2_code_6) rfl rfl (XS.iloadN X1.here hx rfl (hb hby own_d_jdk_43_method_2_code_7) rfl (own_baload X1 hx hZ e1 P0 (11 : Int32) (.int (110 : Int32)) ⟨by decide, by decide⟩ rfl rfl rfl (hb hby own_d_jdk_43_method_2_code_8) (XS.sipush X1.here hx rfl (hb hby own_d_jdk_43_method_2_code_9) (XS.iand X1.here hx rfl (hb hby own_d_jdk_43_method_2_code_12) rfl (XS.i2c X1.here hx rfl (hb hby own_d_jdk_43_method_2_code_13) rfl hr)))))) ?_
  show own_Go p e below _ (T1.setTop (mkF m 14 #[.val (.ref o0), .val (.int (11 : Int32))] [(.int (110 : Int32))]))
  exact own_retN X1 hx hlk Bd.returns (t := .char) (by simp) (hb hby own_d_jdk_43_method_2_code_14) (by decide) (by decide) ⟨rfl, N1, e1⟩
def Q_charAt_28 (Z : State) (h0 : Heap) (n0 : Nat) (v : Option Value) (h : Heap) (L : List Loc) : Prop := v = some (.int (110 : Int32)) ∧ Fr n0 L ∧ h = h0
set_option maxRecDepth 65536 in
set_option maxHeartbeats 40000000 in
theorem rm_charAt_28 (l : Launch) (Z : State) (a0 : Array Value) (hw : ∀ d ∈ tables_1, d.before a0 Z = true) (ws : List Jvm.Cond) (o0 : Addr) (y0 : Int32) (o1 : Addr) (kc0 : ClassId) (vv0 : Value) (h0 : Heap) (n0 : Nat) (Z0 : n0 ≤ h0.size) (P0 : Sta Z h0 "java/lang/String" "COMPACT_STRINGS" "Z" (.int y0)) (P1 : Fld Z h0 o0 "java/lang/String" "coder" "B" (.int (0 : Int32))) (P2 : Exa Z h0 o0 "java/lang/String") (P3 : Fld Z h0 o0 "java/lang/String" "value" "[B" (.ref o1)) (P4 : Arv Z h0 o1 kc0 .byte (12 : Int32) [(.int (103 : Int32)), (.int (97 : Int32)), (.int (115 : Int32)), (.int (95 : Int32)), (.int (112 : Int32)), (.int (97 : Int32)), (.int (114 : Int32)), (.int (116 : Int32)), (.int (95 : Int32)), (.int (121 : Int32)), (.int (101 : Int32)), (.int (110 : Int32))] (.int (0 : Int32))) (P5 : Sta Z h0 "jdk/internal/util/Preconditions" "SIOOBE_FORMATTER" "Ljava/util/function/BiFunction;" vv0) (hvv0 : vv0.isRef = true) (hb0 : ¬ (y0 = (0 : Int32))) :
    MetFree l (⟨"java/lang/String", "charAt", "(I)C"⟩ : MethodName) (head1 (Jvm.Cond.code (⟨"java/lang/String", "charAt", "(I)C"⟩ : MethodName) jdk_42_method_56_code 2 (some .char) :: ws) ({ frames := 3, cells := 0, slots := 0, locals := 40 } : Room)) (fun aA U => aA = #[(.ref o0), (.int (11 : Int32))] ∧ Z.Warmed39 U.vm ∧ U.heap = h0) (fun _ _ _ _ _ => True) (fun _ U o U' => ∃ v L, o = .returned v ∧ Q_charAt_28 Z h0 n0 v U'.heap L ∧ FrameEnd U o U' L ({ frames := 3, cells := 0, slots := 0, locals := 40 } : Room).cells ({ frames := 3, cells := 0, slots := 0, locals := 40 } : Room).slots) := by
  refine MetFree.of_bodySF (plainFor_of_name own_pn_java_lang_String) hisR ?_
  intro p e s m args below meth c s₁ Bd hml0 hP hK
  obtain ⟨rfl, hZ, hh⟩ := hP
  have hx := Bd.exec
  have hby := Bd.bytes
  have hlk : meth.locks = false := BodyLoose.notSynchronized Bd
  have hml : c.maxLocals = 2 := hml0
  have hown : s.vm.findClass "java/lang/String" = some m.cls := findClass_of_methodNamed Bd.named
  have hnm := (name_of_methodNamed Bd.named Bd.method).1
  have X0 : Stand p l e ({ frames := 3, cells := 0, slots := 0, locals := 40 } : Room) s m #[(.ref o0), (.int (11 : Int32))] below meth c s₁ [] 0 0 := Stand.of_body Bd
  have e0 : s₁.heap = h0 := by rw [← hh, Bd.state]; rfl
  have N0 := Fr.nil n0
  show own_Go p e below (own_K s (Q_charAt_28 Z h0 n0) ({ frames := 3, cells := 0, slots := 0, locals := 40 } : Room).cells ({ frames := 3, cells := 0, slots := 0, locals := 40 } : Room).slots) (s₁.setTop (entryFrame m #[(.ref o0), (.int (11 : Int32))] 2))
  rw [(by first | (simp [entryFrame, mkF, argsToLocals, Value.category]; done) | rfl : entryFrame m #[(.ref o0), (.int (11 : Int32))] 2 = mkF m 0 #[.val (.ref o0), .val (.int (11 : Int32))] [])]
  show own_Go p e below _ (s₁.setTop (mkF m 0 #[.val (.ref o0), .val (.int (11 : Int32))] []))
  refine own_go (fun _ hr => XS.aloadN X0.here hx rfl (hb hby own_d_jdk_42_method_56_code_0) rfl rfl hr) ?_
  show own_Go p e below _ (s₁.setTop (mkF m 1 #[.val (.ref o0), .val (.int (11 : Int32))] [(.ref o0)]))
  refine own_cv X0 hx hZ hown (notFace_of_selects (args := #[]) (mvT hZ (hw _ (own_m 41 rfl)))) (hw _ (own_m 38 rfl)) (hw _ (own_m 39 rfl)) (hw _ (own_m 41 rfl)) (hw _ (own_m 40 rfl)) (hw _ (own_m 21 rfl)) (hw _ (own_m 42 rfl)) (by decide) P2 (rm := { frames := 0, cells := 0, slots := 0, locals := 0 }) (rm_isLatin1_4 l Z a0 hw [] o0 y0 h0 n0 Z0 P0 P1 hb0) (by decide) (W := 0) (by decide) (by decide) (by decide) e0 (by rw [hml]; rfl) (argsL := []) (lenOf own_pd4 rfl) (rest := []) rfl rfl (Nat.le_of_eq rfl) (hb hby own_d_jdk_42_method_56_code_1) ?_
  intro _ T1 L1 X1 hQ1
  obtain ⟨rfl, N1q, e1⟩ := hQ1
  have N1 := Fr.app N0 N1q
  show own_Go p e below _ (T1.setTop (mkF m 4 #[.val (.ref o0), .val (.int (11 : Int32))] [(.int (1 : Int32))]))
  refine own_go (fun _ hr => XS.ifNo X1.here hx rfl (hb hby own_d_jdk_42_method_56_code_4) rfl ((if0 _ _).trans (feq (by decide)).1) (XS.aloadN X1.here hx rfl (hb hby own_d_jdk_42_method_56_code_7) rfl rfl hr)) ?_
  show own_Go p e below _ (T1.setTop (mkF m 8 #[.val (.ref o0), .val (.int (11 : Int32))] [(.ref o0)]))
  obtain ⟨T2, X2, e2, st2⟩ := getF X1 hx hZ hown (host := "") (Or.inl (hw _ (own_m 23 rfl))) Via.refl e1 P3 (g := (mkF m 8 #[.val (.ref o0), .val (.int (11 : Int32))] [(.ref o0)])) rfl rfl (hb hby own_d_jdk_42_method_56_code_8)
  refine own_go st2 ?_
  show own_Go p e below _ (T2.setTop (mkF m 11 #[.val (.ref o0), .val (.int (11 : Int32))] [(.ref o1)]))
  refine own_go (fun _ hr => XS.iloadN X2.here hx rfl (hb hby own_d_jdk_42_method_56_code_11) rfl hr) ?_
  show own_Go p e below _ (T2.setTop (mkF m 12 #[.val (.ref o0), .val (.int (11 : Int32))] [(.int (11 : Int32)), (.ref o1)]))
  refine own_cs X2 hx hZ hown (hw _ (own_m 43 rfl)) (hw _ (own_m 44 rfl)) (hw _ (own_m 45 rfl)) (hw _ (own_m 46 rfl)) (by decide) (rm := { frames := 2, cells := 0, slots := 0, locals := 27 }) (rm_charAt_27 l Z a0 hw [] o1 kc0 vv0 h0 n0 Z0 P4 P5 hvv0) (by decide) (W := 0) (by decide) (by decide) (by decide) e2 (by rw [hml]; rfl) (argsL := [(.ref o1), (.int (11 : Int32))]) (lenOf own_pd7 rfl) (rest := []) rfl rfl (Nat.le_of_eq rfl) (hb hby own_d_jdk_42_method_56_code_12) ?_
  intro _ T3 L3 X3 hQ3
  obtain ⟨rfl, N3q, e3⟩ := hQ3
  have N3 := Fr.app N1 N3q
  show own_Go p e below _ (T3.setTop (mkF m 15 #[.val (.ref o0), .val (.int (11 : Int32))] [(.int (110 : Int32))]))
  exact own_retN X3 hx hlk Bd.returns (t := .char) (by simp) (hb hby own_d_jdk_42_method_56_code_15) (by decide) (by decide) ⟨rfl, N3, e3⟩
theorem own_d_method_3_code_53 : decode method_3_code 53 = .ok (.bipush 110, 2) := by decide +kernel
theorem own_d_method_3_code_55 : decode method_3_code 55 = .ok (.if_icmp .ne 7, 3) := by decide +kernel
theorem own_d_method_3_code_58 : decode method_3_code 58 = .ok (.iconst 1, 1) := by decide +kernel
theorem own_d_method_3_code_59 : decode method_3_code 59 = .ok (.goto 4, 3) := by decide +kernel
def Q_endsInYen_29 (Z : State) (h0 : Heap) (n0 : Nat) (v : Option Value) (h : Heap) (L : List Loc) : Prop := v = some (.int (1 : Int32)) ∧ Fr n0 L ∧ h = h0
set_option maxRecDepth 65536 in
set_option maxHeartbeats 40000000 in
theorem rm_endsInYen_29 (l : Launch) (Z : State) (a0 : Array Value) (hw : ∀ d ∈ tables_1, d.before a0 Z = true) (ws : List Jvm.Cond) (o0 : Addr) (o1 : Addr) (kc0 : ClassId) (y0 : Int32) (vv0 : Value) (h0 : Heap) (n0 : Nat) (Z0 : n0 ≤ h0.size) (P0 : Fld Z h0 o0 "java/lang/String" "value" "[B" (.ref o1)) (P1 : Arv Z h0 o1 kc0 .byte (12 : Int32) [(.int (103 : Int32)), (.int (97 : Int32)), (.int (115 : Int32)), (.int (95 : Int32)), (.int (112 : Int32)), (.int (97 : Int32)), (.int (114 : Int32)), (.int (116 : Int32)), (.int (95 : Int32)), (.int (121 : Int32)), (.int (101 : Int32)), (.int (110 : Int32))] (.int (0 : Int32))) (P2 : Sta Z h0 "java/lang/String" "COMPACT_STRINGS" "Z" (.int y0)) (P3 : Fld Z h0 o0 "java/lang/String" "coder" "B" (.int (0 : Int32))) (P4 : Exa Z h0 o0 "java/lang/String") (P5 : Sta Z h0 "jdk/internal/util/Preconditions" "SIOOBE_FORMATTER" "Ljava/util/function/BiFunction;" vv0) (hvv0 : vv0.isRef = true) (hb0 : ¬ (y0 = (0 : Int32))) :
    MetFree l (⟨"com/example/strict_tariff/stricttariff/pricing/ColumnIsAmountPinLaw", "endsInYen", "(Ljava/lang/String;)Z"⟩ : MethodName) (head1 (Jvm.Cond.code (⟨"com/example/strict_tariff/stricttariff/pricing/ColumnIsAmountPinLaw", "endsInYen", "(Ljava/lang/String;)Z"⟩ : MethodName) method_3_code 2 (some .boolean) :: ws) ({ frames := 4, cells := 0, slots := 0, locals := 53 } : Room)) (fun aA U => aA = #[(.ref o0)] ∧ Z.Warmed39 U.vm ∧ U.heap = h0) (fun _ _ _ _ _ => True) (fun _ U o U' => ∃ v L, o = .returned v ∧ Q_endsInYen_29 Z h0 n0 v U'.heap L ∧ FrameEnd U o U' L ({ frames := 4, cells := 0, slots := 0, locals := 53 } : Room).cells ({ frames := 4, cells := 0, slots := 0, locals := 53 } : Room).slots) := by
  refine MetFree.of_bodySF (plainFor_of_name own_pn_com_example_strict_tariff_stricttariff_pricing_ColumnIsAmountPinLaw) hisR ?_
  intro p e s m args below meth c s₁ Bd hml0 hP hK
  obtain ⟨rfl, hZ, hh⟩ := hP
  have hx := Bd.exec
  have hby := Bd.bytes
  have hlk : meth.locks = false := BodyLoose.notSynchronized Bd
  have hml : c.maxLocals = 2 := hml0
  have hown : s.vm.findClass "com/example/strict_tariff/stricttariff/pricing/ColumnIsAmountPinLaw" = some m.cls := findClass_of_methodNamed Bd.named
  have hnm := (name_of_methodNamed Bd.named Bd.method).1
  have X0 : Stand p l e ({ frames := 4, cells := 0, slots := 0, locals := 53 } : Room) s m #[(.ref o0)] below meth c s₁ [] 0 0 := Stand.of_body Bd
  have e0 : s₁.heap = h0 := by rw [← hh, Bd.state]; rfl
  have N0 := Fr.nil n0
  show own_Go p e below (own_K s (Q_endsInYen_29 Z h0 n0) ({ frames := 4, cells := 0, slots := 0, locals := 53 } : Room).cells ({ frames := 4, cells := 0, slots := 0, locals := 53 } : Room).slots) (s₁.setTop (entryFrame m #[(.ref o0)] 2))
  rw [(by first | (simp [entryFrame, mkF, argsToLocals, Value.category]; done) | rfl : entryFrame m #[(.ref o0)] 2 = mkF m 0 #[.val (.ref o0), .unset] [])]
  show own_Go p e below _ (s₁.setTop (mkF m 0 #[.val (.ref o0), .unset] []))
  refine own_go (fun _ hr => XS.aloadN X0.here hx rfl (hb hby own_d_method_3_code_0) rfl rfl hr) ?_
  show own_Go p e below _ (s₁.setTop (mkF m 1 #[.val (.ref o0), .unset] [(.ref o0)]))
  refine own_cv X0 hx hZ hown (notFace_of_selects (args := #[]) (mvT hZ (hw _ (own_m 20 rfl)))) (hw _ (own_m 17 rfl)) (hw _ (own_m 18 rfl)) (hw _ (own_m 20 rfl)) (hw _ (own_m 19 rfl)) (hw _ (own_m 21 rfl)) (hw _ (own_m 22 rfl)) (by decide) P4 (rm := { frames := 1, cells := 0, slots := 0, locals := 13 }) (rm_length_12 l Z a0 hw [] o0 o1 kc0 y0 h0 n0 Z0 P0 P1 P2 P3 P4 hb0) (by decide) (W := 0) (by decide) (by decide) (by decide) e0 (by rw [hml]; rfl) (argsL := []) (lenOf own_pd3 rfl) (rest := []) rfl rfl (Nat.le_of_eq rfl) (hb hby own_d_method_3_code_1) ?_
  intro _ T1 L1 X1 hQ1
  obtain ⟨rfl, N1q, e1⟩ := hQ1
  have N1 := Fr.app N0 N1q
  show own_Go p e below _ (T1.setTop (mkF m 4 #[.val (.ref o0), .unset] [(.int (12 : Int32))]))
  refine own_go (fun _ hr => XS.istoreN X1.here hx rfl (hb hby own_d_method_3_code_4) rfl (l' := #[.val (.ref o0), .val (.int (12 : Int32))]) rfl (XS.iloadN X1.here hx rfl (hb hby own_d_method_3_code_5) rfl (XS.iconst X1.here hx rfl (hb hby own_d_method_3_code_6) (XS.icmpNo X1.here hx rfl (hb hby own_d_method_3_code_7) rfl (flt (by decide)).1 (XS.aloadN X1.here hx rfl (hb hby own_d_method_3_code_10) rfl rfl (XS.iloadN X1.here hx rfl (hb hby own_d_method_3_code_11) rfl (XS.iconst X1.here hx rfl (hb hby own_d_method_3_code_12) (XS.isub X1.here hx rfl (hb hby own_d_method_3_code_13) rfl hr)))))))) ?_
  show own_Go p e below _ (T1.setTop (mkF m 14 #[.val (.ref o0), .val (.int (12 : Int32))] [(.int (8 : Int32)), (.ref o0)]))
  refine own_cv X1 hx hZ hown (notFace_of_selects (args := #[]) (mvT hZ (hw _ (own_m 36 rfl)))) (hw _ (own_m 33 rfl)) (hw _ (own_m 34 rfl)) (hw _ (own_m 36 rfl)) (hw _ (own_m 35 rfl)) (hw _ (own_m 21 rfl)) (hw _ (own_m 37 rfl)) (by decide) P4 (rm := { frames := 3, cells := 0, slots := 0, locals := 40 }) (rm_charAt_16 l Z a0 hw [] o0 y0 o1 kc0 vv0 h0 n0 Z0 P2 P3 P4 P0 P1 P5 hvv0 hb0) (by decide) (W := 0) (by decide) (by decide) (by decide) e1 (by rw [hml]; rfl) (argsL := [(.int (8 : Int32))]) (lenOf own_pd8 rfl) (rest := []) rfl rfl (Nat.le_of_eq rfl) (hb hby own_d_method_3_code_14) ?_
  intro _ T2 L2 X2 hQ2
  obtain ⟨rfl, N2q, e2⟩ := hQ2
  have N2 := Fr.app N1 N2q
  show own_Go p e below _ (T2.setTop (mkF m 17 #[.val (.ref o0), .val (.int (12 : Int32))] [(.int (95 : Int32))]))
  refine own_go (fun _ hr => XS.bipush X2.here hx rfl (hb hby own_d_method_3_code_17) (XS.icmpNo X2.here hx rfl (hb hby own_d_method_3_code_19) rfl (teq (by decide)).2 (XS.aloadN X2.here hx rfl (hb hby own_d_method_3_code_22) rfl rfl (XS.iloadN X2.here hx rfl (hb hby own_d_method_3_code_23) rfl (XS.iconst X2.here hx rfl (hb hby own_d_method_3_code_24) (XS.isub X2.here hx rfl (hb hby own_d_method_3_code_25) rfl hr)))))) ?_
  show own_Go p e below _ (T2.setTop (mkF m 26 #[.val (.ref o0), .val (.int (12 : Int32))] [(.int (9 : Int32)), (.ref o0)]))
  refine own_cv X2 hx hZ hown (notFace_of_selects (args := #[]) (mvT hZ (hw _ (own_m 36 rfl)))) (hw _ (own_m 33 rfl)) (hw _ (own_m 34 rfl)) (hw _ (own_m 36 rfl)) (hw _ (own_m 35 rfl)) (hw _ (own_m 21 rfl)) (hw _ (own_m 37 rfl)) (by decide) P4 (rm := { frames := 3, cells := 0, slots := 0, locals := 40 }) (rm_charAt_20 l Z a0 hw [] o0 y0 o1 kc0 vv0 h0 n0 Z0 P2 P3 P4 P0 P1 P5 hvv0 hb0) (by decide) (W := 0) (by decide) (by decide) (by decide) e2 (by rw [hml]; rfl) (argsL := [(.int (9 : Int32))]) (lenOf own_pd8 rfl) (rest := []) rfl rfl (Nat.le_of_eq rfl) (hb hby own_d_method_3_code_26) ?_
  intro _ T3 L3 X3 hQ3
  obtain ⟨rfl, N3q, e3⟩ := hQ3
  have N3 := Fr.app N2 N3q
  show own_Go p e below _ (T3.setTop (mkF m 29 #[.val (.ref o0), .val (.int (12 : Int32))] [(.int (121 : Int32))]))
  refine own_go (fun _ hr => XS.bipush X3.here hx rfl (hb hby own_d_method_3_code_29) (XS.icmpNo X3.here hx rfl (hb hby own_d_method_3_code_31) rfl (teq (by decide)).2 (XS.aloadN X3.here hx rfl (hb hby own_d_method_3_code_34) rfl rfl (XS.iloadN X3.here hx rfl (hb hby own_d_method_3_code_35) rfl (XS.iconst X3.here hx rfl (hb hby own_d_method_3_code_36) (XS.isub X3.here hx rfl (hb hby own_d_method_3_code_37) rfl hr)))))) ?_
  show own_Go p e below _ (T3.setTop (mkF m 38 #[.val (.ref o0), .val (.int (12 : Int32))] [(.int (10 : Int32)), (.ref o0)]))
  refine own_cv X3 hx hZ hown (notFace_of_selects (args := #[]) (mvT hZ (hw _ (own_m 36 rfl)))) (hw _ (own_m 33 rfl)) (hw _ (own_m 34 rfl)) (hw _ (own_m 36 rfl)) (hw _ (own_m 35 rfl)) (hw _ (own_m 21 rfl)) (hw _ (own_m 37 rfl)) (by decide) P4 (rm := { frames := 3, cells := 0, slots := 0, locals := 40 }) (rm_charAt_24 l Z a0 hw [] o0 y0 o1 kc0 vv0 h0 n0 Z0 P2 P3 P4 P0 P1 P5 hvv0 hb0) (by decide) (W := 0) (by decide) (by decide) (by decide) e3 (by rw [hml]; rfl) (argsL := [(.int (10 : Int32))]) (lenOf own_pd8 rfl) (rest := []) rfl rfl (Nat.le_of_eq rfl) (hb hby own_d_method_3_code_38) ?_
  intro _ T4 L4 X4 hQ4
  obtain ⟨rfl, N4q, e4⟩ := hQ4
  have N4 := Fr.app N3 N4q
  show own_Go p e below _ (T4.setTop (mkF m 41 #[.val (.ref o0), .val (.int (12 : Int32))] [(.int (101 : Int32))]))
  refine own_go (fun _ hr => XS.bipush X4.here hx rfl (hb hby own_d_method_3_code_41) (XS.icmpNo X4.here hx rfl (hb hby own_d_method_3_code_43) rfl (teq (by decide)).2 (XS.aloadN X4.here hx rfl (hb hby own_d_method_3_code_46) rfl rfl (XS.iloadN X4.here hx rfl (hb hby own_d_method_3_code_47) rfl (XS.iconst X4.here hx rfl (hb hby own_d_method_3_code_48) (XS.isub X4.here hx rfl (hb hby own_d_method_3_code_49) rfl hr)))))) ?_
  show own_Go p e below _ (T4.setTop (mkF m 50 #[.val (.ref o0), .val (.int (12 : Int32))] [(.int (11 : Int32)), (.ref o0)]))
  refine own_cv X4 hx hZ hown (notFace_of_selects (args := #[]) (mvT hZ (hw _ (own_m 36 rfl)))) (hw _ (own_m 33 rfl)) (hw _ (own_m 34 rfl)) (hw _ (own_m 36 rfl)) (hw _ (own_m 35 rfl)) (hw _ (own_m 21 rfl)) (hw _ (own_m 37 rfl)) (by decide) P4 (rm := { frames := 3, cells := 0, slots := 0, locals := 40 }) (rm_charAt_28 l Z a0 hw [] o0 y0 o1 kc0 vv0 h0 n0 Z0 P2 P3 P4 P0 P1 P5 hvv0 hb0) (by decide) (W := 0) (by decide) (by decide) (by decide) e4 (by rw [hml]; rfl) (argsL := [(.int (11 : Int32))]) (lenOf own_pd8 rfl) (rest := []) rfl rfl (Nat.le_of_eq rfl) (hb hby own_d_method_3_code_50) ?_
  intro _ T5 L5 X5 hQ5
  obtain ⟨rfl, N5q, e5⟩ := hQ5
  have N5 := Fr.app N4 N5q
  show own_Go p e below _ (T5.setTop (mkF m 53 #[.val (.ref o0), .val (.int (12 : Int32))] [(.int (110 : Int32))]))
  refine own_go (fun _ hr => XS.bipush X5.here hx rfl (hb hby own_d_method_3_code_53) (XS.icmpNo X5.here hx rfl (hb hby own_d_method_3_code_55) rfl (teq (by decide)).2 (XS.iconst X5.here hx rfl (hb hby own_d_method_3_code_58) (XS.goto X5.here hx rfl (pc0 := 59) (pc' := 63) rfl (hb hby own_d_method_3_code_59) (by decide) (by decide) hr)))) ?_
  show own_Go p e below _ (T5.setTop (mkF m 63 #[.val (.ref o0), .val (.int (12 : Int32))] [(.int (1 : Int32))]))
  exact own_retN X5 hx hlk Bd.returns (t := .boolean) (by simp) (hb hby own_d_method_3_code_63) (by decide) (by decide) ⟨rfl, N5, e5⟩
theorem own_d_prog_4_method_5_code_7 : decode prog_4_method_5_code 7 = .ok (.iconst 1, 1) := by decide +kernel
theorem own_d_prog_4_method_5_code_8 : decode prog_4_method_5_code 8 = .ok (.goto 4, 3) := by decide +kernel
def Q_isAmount_30 (Z : State) (h0 : Heap) (n0 : Nat) (v : Option Value) (h : Heap) (L : List Loc) : Prop := v = some (.int (1 : Int32)) ∧ Fr n0 L ∧ h = h0
set_option maxRecDepth 65536 in
set_option maxHeartbeats 40000000 in
theorem rm_isAmount_30 (l : Launch) (Z : State) (a0 : Array Value) (hw : ∀ d ∈ tables_1, d.before a0 Z = true) (ws : List Jvm.Cond) (o0 : Addr) (o1 : Addr) (h0 : Heap) (n0 : Nat) (Z0 : n0 ≤ h0.size) (P0 : Sta Z h0 "com/example/strict_tariff/stricttariff/pricing/Column" "USAGE" "Lcom/example/strict_tariff/stricttariff/pricing/Column;" (.ref o1)) (ne0p : o0 ≠ o1) :
    MetFree l (⟨"com/example/strict_tariff/stricttariff/pricing/Column", "isAmount", "()Z"⟩ : MethodName) (head1 (Jvm.Cond.code (⟨"com/example/strict_tariff/stricttariff/pricing/Column", "isAmount", "()Z"⟩ : MethodName) prog_4_method_5_code 1 (some .boolean) :: ws) ({ frames := 0, cells := 0, slots := 0, locals := 0 } : Room)) (fun aA U => aA = #[(.ref o0)] ∧ Z.Warmed39 U.vm ∧ U.heap = h0) (fun _ _ _ _ _ => True) (fun _ U o U' => ∃ v L, o = .returned v ∧ Q_isAmount_30 Z h0 n0 v U'.heap L ∧ FrameEnd U o U' L ({ frames := 0, cells := 0, slots := 0, locals := 0 } : Room).cells ({ frames := 0, cells := 0, slots := 0, locals := 0 } : Room).slots) := by
  refine MetFree.of_bodySF (plainFor_of_name own_pn_com_example_strict_tariff_stricttariff_pricing_Column) hisR ?_
  intro p e s m args below meth c s₁ Bd hml0 hP hK
  obtain ⟨rfl, hZ, hh⟩ := hP
  have hx := Bd.exec
  have hby := Bd.bytes
  have hlk : meth.locks = false := BodyLoose.notSynchronized Bd
  have hml : c.maxLocals = 1 := hml0
  have hown : s.vm.findClass "com/example/strict_tariff/stricttariff/pricing/Column" = some m.cls := findClass_of_methodNamed Bd.named
  have hnm := (name_of_methodNamed Bd.named Bd.method).1
  have X0 : Stand p l e ({ frames := 0, cells := 0, slots := 0, locals := 0 } : Room) s m #[(.ref o0)] below meth c s₁ [] 0 0 := Stand.of_body Bd
  have e0 : s₁.heap = h0 := by rw [← hh, Bd.state]; rfl
  have N0 := Fr.nil n0
  show own_Go p e below (own_K s (Q_isAmount_30 Z h0 n0) ({ frames := 0, cells := 0, slots := 0, locals := 0 } : Room).cells ({ frames := 0, cells := 0, slots := 0, locals := 0 } : Room).slots) (s₁.setTop (entryFrame m #[(.ref o0)] 1))
  rw [(by first | (simp [entryFrame, mkF, argsToLocals, Value.category]; done) | rfl : entryFrame m #[(.ref o0)] 1 = mkF m 0 #[.val (.ref o0)] [])]
  show own_Go p e below _ (s₁.setTop (mkF m 0 #[.val (.ref o0)] []))
  refine own_go (fun _ hr => XS.aloadN X0.here hx rfl (hb hby own_d_prog_4_method_5_code_0) rfl rfl hr) ?_
  show own_Go p e below _ (s₁.setTop (mkF m 1 #[.val (.ref o0)] [(.ref o0)]))
  obtain ⟨T1, X1, e1, st1⟩ := getS2 X0 hx hZ hown (host := "") (Or.inl (hw _ (own_m 60 rfl))) Via.refl e0 P0 (g := (mkF m 1 #[.val (.ref o0)] [(.ref o0)])) rfl (hb hby own_d_prog_4_method_5_code_1)
  refine own_go st1 ?_
  show own_Go p e below _ (T1.setTop (mkF m 4 #[.val (.ref o0)] [(.ref o1), (.ref o0)]))
  refine own_go (fun _ hr => Jvm.RoadKit.acmp X1 hx rfl rfl rfl (pc0 := 4) (pc' := 7) (same := false) rfl (hb hby own_d_prog_4_method_5_code_4) rfl (decide_eq_false fun q => ne0p (Value.ref.inj q)) (by decide) (by decide) hr) ?_
  show own_Go p e below _ (T1.setTop (mkF m 7 #[.val (.ref o0)] []))
  refine own_go (fun _ hr => XS.iconst X1.here hx rfl (hb hby own_d_prog_4_method_5_code_7) (XS.goto X1.here hx rfl (pc0 := 8) (pc' := 12) rfl (hb hby own_d_prog_4_method_5_code_8) (by decide) (by decide) hr)) ?_
  show own_Go p e below _ (T1.setTop (mkF m 12 #[.val (.ref o0)] [(.int (1 : Int32))]))
  exact own_retN X1 hx hlk Bd.returns (t := .boolean) (by simp) (hb hby own_d_prog_4_method_5_code_12) (by decide) (by decide) ⟨rfl, N0, e1⟩
theorem own_d_method_2_code_13 : decode method_2_code 13 = .ok (.getstatic 13, 3) := by decide +kernel
theorem own_d_method_2_code_16 : decode method_2_code 16 = .ok (.areturn, 1) := by decide +kernel
def Q_pick_31 (Z : State) (o0 : Addr) (h0 : Heap) (n0 : Nat) (v : Option Value) (h : Heap) (L : List Loc) : Prop := v = some (.ref o0) ∧ Fr n0 L ∧ h = h0
set_option maxRecDepth 65536 in
set_option maxHeartbeats 40000000 in
theorem rm_pick_31 (l : Launch) (Z : State) (a0 : Array Value) (hw : ∀ d ∈ tables_1, d.before a0 Z = true) (ws : List Jvm.Cond) (o0 : Addr) (h0 : Heap) (n0 : Nat) (Z0 : n0 ≤ h0.size) (P0 : Sta Z h0 "com/example/strict_tariff/stricttariff/pricing/Column" "CHARGE" "Lcom/example/strict_tariff/stricttariff/pricing/Column;" (.ref o0)) :
    MetFree l (⟨"com/example/strict_tariff/stricttariff/pricing/ColumnIsAmountPinLaw", "pick", "(I)Lcom/example/strict_tariff/stricttariff/pricing/Column;"⟩ : MethodName) (head1 (Jvm.Cond.code (⟨"com/example/strict_tariff/stricttariff/pricing/ColumnIsAmountPinLaw", "pick", "(I)Lcom/example/strict_tariff/stricttariff/pricing/Column;"⟩ : MethodName) method_2_code 1 (some (.object "com/example/strict_tariff/stricttariff/pricing/Column")) :: ws) ({ frames := 0, cells := 0, slots := 0, locals := 0 } : Room)) (fun aA U => aA = #[(.int (1 : Int32))] ∧ Z.Warmed39 U.vm ∧ U.heap = h0) (fun _ _ _ _ _ => True) (fun _ U o U' => ∃ v L, o = .returned v ∧ Q_pick_31 Z o0 h0 n0 v U'.heap L ∧ FrameEnd U o U' L ({ frames := 0, cells := 0, slots := 0, locals := 0 } : Room).cells ({ frames := 0, cells := 0, slots := 0, locals := 0 } : Room).slots) := by
  refine MetFree.of_bodySF (plainFor_of_name own_pn_com_example_strict_tariff_stricttariff_pricing_ColumnIsAmountPinLaw) hisR ?_
  intro p e s m args below meth c s₁ Bd hml0 hP hK
  obtain ⟨rfl, hZ, hh⟩ := hP
  have hx := Bd.exec
  have hby := Bd.bytes
  have hlk : meth.locks = false := BodyLoose.notSynchronized Bd
  have hml : c.maxLocals = 1 := hml0
  have hown : s.vm.findClass "com/example/strict_tariff/stricttariff/pricing/ColumnIsAmountPinLaw" = some m.cls := findClass_of_methodNamed Bd.named
  have hnm := (name_of_methodNamed Bd.named Bd.method).1
  have X0 : Stand p l e ({ frames := 0, cells := 0, slots := 0, locals := 0 } : Room) s m #[(.int (1 : Int32))] below meth c s₁ [] 0 0 := Stand.of_body Bd
  have e0 : s₁.heap = h0 := by rw [← hh, Bd.state]; rfl
  have N0 := Fr.nil n0
  show own_Go p e below (own_K s (Q_pick_31 Z o0 h0 n0) ({ frames := 0, cells := 0, slots := 0, locals := 0 } : Room).cells ({ frames := 0, cells := 0, slots := 0, locals := 0 } : Room).slots) (s₁.setTop (entryFrame m #[(.int (1 : Int32))] 1))
  rw [(by first | (simp [entryFrame, mkF, argsToLocals, Value.category]; done) | rfl : entryFrame m #[(.int (1 : Int32))] 1 = mkF m 0 #[.val (.int (1 : Int32))] [])]
  show own_Go p e below _ (s₁.setTop (mkF m 0 #[.val (.int (1 : Int32))] []))
  refine own_go (fun _ hr => XS.iloadN X0.here hx rfl (hb hby own_d_method_2_code_0) rfl (XS.ifYes X0.here hx rfl (pc0 := 1) (pc' := 8) rfl (hb hby own_d_method_2_code_1) rfl ((if0 _ _).trans (feq (by decide)).2) (by decide) (by decide) (XS.iloadN X0.here hx rfl (hb hby own_d_method_2_code_8) rfl (XS.iconst X0.here hx rfl (hb hby own_d_method_2_code_9) (XS.icmpNo X0.here hx rfl (hb hby own_d_method_2_code_10) rfl (teq (by decide)).2 hr))))) ?_
  show own_Go p e below _ (s₁.setTop (mkF m 13 #[.val (.int (1 : Int32))] []))
  obtain ⟨T1, X1, e1, st1⟩ := getS2 X0 hx hZ hown (host := "") (Or.inl (hw _ (own_m 65 rfl))) Via.refl e0 P0 (g := (mkF m 13 #[.val (.int (1 : Int32))] [])) rfl (hb hby own_d_method_2_code_13)
  refine own_go st1 ?_
  show own_Go p e below _ (T1.setTop (mkF m 16 #[.val (.int (1 : Int32))] [(.ref o0)]))
  exact own_retR X1 hx hlk Bd.returns rfl rfl (hb hby own_d_method_2_code_16) (by decide) (by decide) ⟨rfl, N0, e1⟩
def Q_length_32 (Z : State) (h0 : Heap) (n0 : Nat) (v : Option Value) (h : Heap) (L : List Loc) : Prop := v = some (.int (10 : Int32)) ∧ Fr n0 L ∧ h = h0
set_option maxRecDepth 65536 in
set_option maxHeartbeats 40000000 in
theorem rm_length_32 (l : Launch) (Z : State) (a0 : Array Value) (hw : ∀ d ∈ tables_1, d.before a0 Z = true) (ws : List Jvm.Cond) (o0 : Addr) (o1 : Addr) (kc0 : ClassId) (y0 : Int32) (h0 : Heap) (n0 : Nat) (Z0 : n0 ≤ h0.size) (P0 : Fld Z h0 o0 "java/lang/String" "value" "[B" (.ref o1)) (P1 : Arv Z h0 o1 kc0 .byte (10 : Int32) [(.int (99 : Int32)), (.int (104 : Int32)), (.int (97 : Int32)), (.int (114 : Int32)), (.int (103 : Int32)), (.int (101 : Int32)), (.int (95 : Int32)), (.int (121 : Int32)), (.int (101 : Int32)), (.int (110 : Int32))] (.int (0 : Int32))) (P2 : Sta Z h0 "java/lang/String" "COMPACT_STRINGS" "Z" (.int y0)) (P3 : Fld Z h0 o0 "java/lang/String" "coder" "B" (.int (0 : Int32))) (P4 : Exa Z h0 o0 "java/lang/String") (hb0 : ¬ (y0 = (0 : Int32))) :
    MetFree l (⟨"java/lang/String", "length", "()I"⟩ : MethodName) (head1 (Jvm.Cond.code (⟨"java/lang/String", "length", "()I"⟩ : MethodName) jdk_42_method_54_code 1 (some .int) :: ws) ({ frames := 1, cells := 0, slots := 0, locals := 13 } : Room)) (fun aA U => aA = #[(.ref o0)] ∧ Z.Warmed39 U.vm ∧ U.heap = h0) (fun _ _ _ _ _ => True) (fun _ U o U' => ∃ v L, o = .returned v ∧ Q_length_32 Z h0 n0 v U'.heap L ∧ FrameEnd U o U' L ({ frames := 1, cells := 0, slots := 0, locals := 13 } : Room).cells ({ frames := 1, cells := 0, slots := 0, locals := 13 } : Room).slots) := by
  refine MetFree.of_bodySF (plainFor_of_name own_pn_java_lang_String) hisR ?_
  intro p e s m args below meth c s₁ Bd hml0 hP hK
  obtain ⟨rfl, hZ, hh⟩ := hP
  have hx := Bd.exec
  have hby := Bd.bytes
  have hlk : meth.locks = false := BodyLoose.notSynchronized Bd
  have hml : c.maxLocals = 1 := hml0
  have hown : s.vm.findClass "java/lang/String" = some m.cls := findClass_of_methodNamed Bd.named
  have hnm := (name_of_methodNamed Bd.named Bd.method).1
  have X0 : Stand p l e ({ frames := 1, cells := 0, slots := 0, locals := 13 } : Room) s m #[(.ref o0)] below meth c s₁ [] 0 0 := Stand.of_body Bd
  have e0 : s₁.heap = h0 := by rw [← hh, Bd.state]; rfl
  have N0 := Fr.nil n0
  show own_Go p e below (own_K s (Q_length_32 Z h0 n0) ({ frames := 1, cells := 0, slots := 0, locals := 13 } : Room).cells ({ frames := 1, cells := 0, slots := 0, locals := 13 } : Room).slots) (s₁.setTop (entryFrame m #[(.ref o0)] 1))
  rw [(by first | (simp [entryFrame, mkF, argsToLocals, Value.category]; done) | rfl : entryFrame m #[(.ref o0)] 1 = mkF m 0 #[.val (.ref o0)] [])]
  show own_Go p e below _ (s₁.setTop (mkF m 0 #[.val (.ref o0)] []))
  refine own_go (fun _ hr => XS.aloadN X0.here hx rfl (hb hby own_d_jdk_42_method_54_code_0) rfl rfl hr) ?_
  show own_Go p e below _ (s₁.setTop (mkF m 1 #[.val (.ref o0)] [(.ref o0)]))
  obtain ⟨T1, X1, e1, st1⟩ := getF X0 hx hZ hown (host := "") (Or.inl (hw _ (own_m 23 rfl))) Via.refl e0 P0 (g := (mkF m 1 #[.val (.ref o0)] [(.ref o0)])) rfl rfl (hb hby own_d_jdk_42_method_54_code_1)
  refine own_go st1 ?_
  show own_Go p e below _ (T1.setTop (mkF m 4 #[.val (.ref o0)] [(.ref o1)]))
  refine own_go (fun _ hr => own_alen X1 hx hZ e1 P1 rfl rfl (hb hby own_d_jdk_42_method_54_code_4) (XS.aloadN X1.here hx rfl (hb hby own_d_jdk_42_method_54_code_5) rfl rfl hr)) ?_
  show own_Go p e below _ (T1.setTop (mkF m 6 #[.val (.ref o0)] [(.ref o0), (.int (10 : Int32))]))
  refine own_cv X1 hx hZ hown (notFace_of_selects (args := #[]) (mvT hZ (hw _ (own_m 28 rfl)))) (hw _ (own_m 25 rfl)) (hw _ (own_m 26 rfl)) (hw _ (own_m 28 rfl)) (hw _ (own_m 27 rfl)) (hw _ (own_m 21 rfl)) (hw _ (own_m 29 rfl)) (by decide) P4 (rm := { frames := 0, cells := 0, slots := 0, locals := 0 }) (rm_coder_2 l Z a0 hw [] o0 y0 h0 n0 Z0 P2 P3 hb0) (by decide) (W := 1) (by decide) (by decide) (by decide) e1 (by rw [hml]; rfl) (argsL := []) (lenOf own_pd2 rfl) (rest := [(.int (10 : Int32))]) rfl rfl (Nat.le_of_eq rfl) (hb hby own_d_jdk_42_method_54_code_6) ?_
  intro _ T2 L2 X2 hQ2
  obtain ⟨rfl, N2q, e2⟩ := hQ2
  have N2 := Fr.app N0 N2q
  show own_Go p e below _ (T2.setTop (mkF m 9 #[.val (.ref o0)] [(.int (0 : Int32)), (.int (10 : Int32))]))
  refine own_go (fun _ hr => XS.ishr X2.here hx rfl (hb hby own_d_jdk_42_method_54_code_9) rfl hr) ?_
  show own_Go p e below _ (T2.setTop (mkF m 10 #[.val (.ref o0)] [(.int (10 : Int32))]))
  exact own_retI X2 hx hlk Bd.returns (hb hby own_d_jdk_42_method_54_code_10) (by decide) (by decide) ⟨rfl, N2, e2⟩
def Q_checkIndex_33 (Z : State) (h0 : Heap) (n0 : Nat) (v : Option Value) (h : Heap) (L : List Loc) : Prop := v = some (.int (6 : Int32)) ∧ Fr n0 L ∧ h = h0
set_option maxRecDepth 65536 in
set_option maxHeartbeats 40000000 in
theorem rm_checkIndex_33 (l : Launch) (Z : State) (a0 : Array Value) (hw : ∀ d ∈ tables_1, d.before a0 Z = true) (ws : List Jvm.Cond) (vv0 : Value) (h0 : Heap) (n0 : Nat) (Z0 : n0 ≤ h0.size) (hvv0 : vv0.isRef = true) :
    MetFree l (⟨"jdk/internal/util/Preconditions", "checkIndex", "(IILjava/util/function/BiFunction;)I"⟩ : MethodName) (head1 (Jvm.Cond.code (⟨"jdk/internal/util/Preconditions", "checkIndex", "(IILjava/util/function/BiFunction;)I"⟩ : MethodName) jdk_41_method_11_code 3 (some .int) :: ws) ({ frames := 0, cells := 0, slots := 0, locals := 0 } : Room)) (fun aA U => aA = #[(.int (6 : Int32)), (.int (10 : Int32)), vv0] ∧ Z.Warmed39 U.vm ∧ U.heap = h0) (fun _ _ _ _ _ => True) (fun _ U o U' => ∃ v L, o = .returned v ∧ Q_checkIndex_33 Z h0 n0 v U'.heap L ∧ FrameEnd U o U' L ({ frames := 0, cells := 0, slots := 0, locals := 0 } : Room).cells ({ frames := 0, cells := 0, slots := 0, locals := 0 } : Room).slots) := by
  refine MetFree.of_bodySF (plainFor_of_name own_pn_jdk_internal_util_Preconditions) hisR ?_
  intro p e s m args below meth c s₁ Bd hml0 hP hK
  obtain ⟨rfl, hZ, hh⟩ := hP
  have hx := Bd.exec
  have hby := Bd.bytes
  have hlk : meth.locks = false := BodyLoose.notSynchronized Bd
  have hml : c.maxLocals = 3 := hml0
  have hown : s.vm.findClass "jdk/internal/util/Preconditions" = some m.cls := findClass_of_methodNamed Bd.named
  have hnm := (name_of_methodNamed Bd.named Bd.method).1
  have X0 : Stand p l e ({ frames := 0, cells := 0, slots := 0, locals := 0 } : Room) s m #[(.int (6 : Int32)), (.int (10 : Int32)), vv0] below meth c s₁ [] 0 0 := Stand.of_body Bd
  have e0 : s₁.heap = h0 := by rw [← hh, Bd.state]; rfl
  have N0 := Fr.nil n0
  show own_Go p e below (own_K s (Q_checkIndex_33 Z h0 n0) ({ frames := 0, cells := 0, slots := 0, locals := 0 } : Room).cells ({ frames := 0, cells := 0, slots := 0, locals := 0 } : Room).slots) (s₁.setTop (entryFrame m #[(.int (6 : Int32)), (.int (10 : Int32)), vv0] 3))
  rw [(by first | (simp [entryFrame, mkF, argsToLocals, Value.category]; done) | (have q := hvv0; revert q; cases vv0 <;> simp [entryFrame, mkF, argsToLocals, Value.category, Value.isRef]) | rfl : entryFrame m #[(.int (6 : Int32)), (.int (10 : Int32)), vv0] 3 = mkF m 0 #[.val (.int (6 : Int32)), .val (.int (10 : Int32)), .val vv0] [])]
  show own_Go p e below _ (s₁.setTop (mkF m 0 #[.val (.int (6 : Int32)), .val (.int (10 : Int32)), .val vv0] []))
  refine own_go (fun _ hr => XS.iloadN X0.here hx rfl (hb hby own_d_jdk_41_method_11_code_0) rfl (XS.ifNo X0.here hx rfl (hb hby own_d_jdk_41_method_11_code_1) rfl ((if0 _ _).trans (flt (by decide)).1) (XS.iloadN X0.here hx rfl (hb hby own_d_jdk_41_method_11_code_4) rfl (XS.iloadN X0.here hx rfl (hb hby own_d_jdk_41_method_11_code_5) rfl (XS.icmpYes X0.here hx rfl (pc0 := 6) (pc' := 16) rfl (hb hby own_d_jdk_41_method_11_code_6) rfl (tlt (by decide)).1 (by decide) (by decide) (XS.iloadN X0.here hx rfl (hb hby own_d_jdk_41_method_11_code_16) rfl hr)))))) ?_
  show own_Go p e below _ (s₁.setTop (mkF m 17 #[.val (.int (6 : Int32)), .val (.int (10 : Int32)), .val vv0] [(.int (6 : Int32))]))
  exact own_retI X0 hx hlk Bd.returns (hb hby own_d_jdk_41_method_11_code_17) (by decide) (by decide) ⟨rfl, N0, e0⟩
def Q_checkIndex_34 (Z : State) (h0 : Heap) (n0 : Nat) (v : Option Value) (h : Heap) (L : List Loc) : Prop := v = none ∧ Fr n0 L ∧ h = h0
set_option maxRecDepth 65536 in
set_option maxHeartbeats 40000000 in
theorem rm_checkIndex_34 (l : Launch) (Z : State) (a0 : Array Value) (hw : ∀ d ∈ tables_1, d.before a0 Z = true) (ws : List Jvm.Cond) (vv0 : Value) (h0 : Heap) (n0 : Nat) (Z0 : n0 ≤ h0.size) (P0 : Sta Z h0 "jdk/internal/util/Preconditions" "SIOOBE_FORMATTER" "Ljava/util/function/BiFunction;" vv0) (hvv0 : vv0.isRef = true) :
    MetFree l (⟨"java/lang/String", "checkIndex", "(II)V"⟩ : MethodName) (head1 (Jvm.Cond.code (⟨"java/lang/String", "checkIndex", "(II)V"⟩ : MethodName) jdk_42_method_155_code 2 none :: ws) ({ frames := 1, cells := 0, slots := 0, locals := 14 } : Room)) (fun aA U => aA = #[(.int (6 : Int32)), (.int (10 : Int32))] ∧ Z.Warmed39 U.vm ∧ U.heap = h0) (fun _ _ _ _ _ => True) (fun _ U o U' => ∃ v L, o = .returned v ∧ Q_checkIndex_34 Z h0 n0 v U'.heap L ∧ FrameEnd U o U' L ({ frames := 1, cells := 0, slots := 0, locals := 14 } : Room).cells ({ frames := 1, cells := 0, slots := 0, locals := 14 } : Room).slots) := by
  refine MetFree.of_bodySF (plainFor_of_name own_pn_java_lang_String) hisR ?_
  intro p e s m args below meth c s₁ Bd hml0 hP hK
  obtain ⟨rfl, hZ, hh⟩ := hP
  have hx := Bd.exec
  have hby := Bd.bytes
  have hlk : meth.locks = false := BodyLoose.notSynchronized Bd
  have hml : c.maxLocals = 2 := hml0
  have hown : s.vm.findClass "java/lang/String" = some m.cls := findClass_of_methodNamed Bd.named
  have hnm := (name_of_methodNamed Bd.named Bd.method).1
  have X0 : Stand p l e ({ frames := 1, cells := 0, slots := 0, locals := 14 } : Room) s m #[(.int (6 : Int32)), (.int (10 : Int32))] below meth c s₁ [] 0 0 := Stand.of_body Bd
  have e0 : s₁.heap = h0 := by rw [← hh, Bd.state]; rfl
  have N0 := Fr.nil n0
  show own_Go p e below (own_K s (Q_checkIndex_34 Z h0 n0) ({ frames := 1, cells := 0, slots := 0, locals := 14 } : Room).cells ({ frames := 1, cells := 0, slots := 0, locals := 14 } : Room).slots) (s₁.setTop (entryFrame m #[(.int (6 : Int32)), (.int (10 : Int32))] 2))
  rw [(by first | (simp [entryFrame, mkF, argsToLocals, Value.category]; done) | rfl : entryFrame m #[(.int (6 : Int32)), (.int (10 : Int32))] 2 = mkF m 0 #[.val (.int (6 : Int32)), .val (.int (10 : Int32))] [])]
  show own_Go p e below _ (s₁.setTop (mkF m 0 #[.val (.int (6 : Int32)), .val (.int (10 : Int32))] []))
  refine own_go (fun _ hr => XS.iloadN X0.here hx rfl (hb hby own_d_jdk_42_method_155_code_0) rfl (XS.iloadN X0.here hx rfl (hb hby own_d_jdk_42_method_155_code_1) rfl hr)) ?_
  show own_Go p e below _ (s₁.setTop (mkF m 2 #[.val (.int (6 : Int32)), .val (.int (10 : Int32))] [(.int (10 : Int32)), (.int (6 : Int32))]))
  obtain ⟨T1, X1, e1, st1⟩ := getS2 X0 hx hZ hown (host := "") (Or.inl (hw _ (own_m 50 rfl))) Via.refl e0 P0 (g := (mkF m 2 #[.val (.int (6 : Int32)), .val (.int (10 : Int32))] [(.int (10 : Int32)), (.int (6 : Int32))])) rfl (hb hby own_d_jdk_42_method_155_code_2)
  refine own_go st1 ?_
  show own_Go p e below _ (T1.setTop (mkF m 5 #[.val (.int (6 : Int32)), .val (.int (10 : Int32))] [vv0, (.int (10 : Int32)), (.int (6 : Int32))]))
  refine own_cs X1 hx hZ hown (hw _ (own_m 52 rfl)) (hw _ (own_m 53 rfl)) (hw _ (own_m 51 rfl)) (hw _ (own_m 54 rfl)) (by decide) (rm := { frames := 0, cells := 0, slots := 0, locals := 0 }) (rm_checkIndex_33 l Z a0 hw [] vv0 h0 n0 Z0 hvv0) (by decide) (W := 0) (by decide) (by decide) (by decide) e1 (by rw [hml]; rfl) (argsL := [(.int (6 : Int32)), (.int (10 : Int32)), vv0]) (lenOf own_pd5 rfl) (rest := []) rfl rfl (Nat.le_of_eq rfl) (hb hby own_d_jdk_42_method_155_code_5) ?_
  intro _ T2 L2 X2 hQ2
  obtain ⟨rfl, N2q, e2⟩ := hQ2
  have N2 := Fr.app N0 N2q
  show own_Go p e below _ (T2.setTop (mkF m 8 #[.val (.int (6 : Int32)), .val (.int (10 : Int32))] [(.int (6 : Int32))]))
  refine own_go (fun _ hr => XS.pop X2.here hx rfl (hb hby own_d_jdk_42_method_155_code_8) rfl rfl hr) ?_
  show own_Go p e below _ (T2.setTop (mkF m 9 #[.val (.int (6 : Int32)), .val (.int (10 : Int32))] []))
  exact own_ret0 X2 hx hlk Bd.returns (hb hby own_d_jdk_42_method_155_code_9) (by decide) (by decide) ⟨rfl, N2, e2⟩
def Q_charAt_35 (Z : State) (h0 : Heap) (n0 : Nat) (v : Option Value) (h : Heap) (L : List Loc) : Prop := v = some (.int (95 : Int32)) ∧ Fr n0 L ∧ h = h0
set_option maxRecDepth 65536 in
set_option maxHeartbeats 40000000 in
theorem rm_charAt_35 (l : Launch) (Z : State) (a0 : Array Value) (hw : ∀ d ∈ tables_1, d.before a0 Z = true) (ws : List Jvm.Cond) (o0 : Addr) (kc0 : ClassId) (vv0 : Value) (h0 : Heap) (n0 : Nat) (Z0 : n0 ≤ h0.size) (P0 : Arv Z h0 o0 kc0 .byte (10 : Int32) [(.int (99 : Int32)), (.int (104 : Int32)), (.int (97 : Int32)), (.int (114 : Int32)), (.int (103 : Int32)), (.int (101 : Int32)), (.int (95 : Int32)), (.int (121 : Int32)), (.int (101 : Int32)), (.int (110 : Int32))] (.int (0 : Int32))) (P1 : Sta Z h0 "jdk/internal/util/Preconditions" "SIOOBE_FORMATTER" "Ljava/util/function/BiFunction;" vv0) (hvv0 : vv0.isRef = true) :
    MetFree l (⟨"java/lang/StringLatin1", "charAt", "([BI)C"⟩ : MethodName) (head1 (Jvm.Cond.code (⟨"java/lang/StringLatin1", "charAt", "([BI)C"⟩ : MethodName) jdk_43_method_2_code 2 (some .char) :: ws) ({ frames := 2, cells := 0, slots := 0, locals := 27 } : Room)) (fun aA U => aA = #[(.ref o0), (.int (6 : Int32))] ∧ Z.Warmed39 U.vm ∧ U.heap = h0) (fun _ _ _ _ _ => True) (fun _ U o U' => ∃ v L, o = .returned v ∧ Q_charAt_35 Z h0 n0 v U'.heap L ∧ FrameEnd U o U' L ({ frames := 2, cells := 0, slots := 0, locals := 27 } : Room).cells ({ frames := 2, cells := 0, slots := 0, locals := 27 } : Room).slots) := by
  refine MetFree.of_bodySF (plainFor_of_name own_pn_java_lang_StringLatin1) hisR ?_
  intro p e s m args below meth c s₁ Bd hml0 hP hK
  obtain ⟨rfl, hZ, hh⟩ := hP
  have hx := Bd.exec
  have hby := Bd.bytes
  have hlk : meth.locks = false := BodyLoose.notSynchronized Bd
  have hml : c.maxLocals = 2 := hml0
  have hown : s.vm.findClass "java/lang/StringLatin1" = some m.cls := findClass_of_methodNamed Bd.named
  have hnm := (name_of_methodNamed Bd.named Bd.method).1
  have X0 : Stand p l e ({ frames := 2, cells := 0, slots := 0, locals := 27 } : Room) s m #[(.ref o0), (.int (6 : Int32))] below meth c s₁ [] 0 0 := Stand.of_body Bd
  have e0 : s₁.heap = h0 := by rw [← hh, Bd.state]; rfl
  have N0 := Fr.nil n0
  show own_Go p e below (own_K s (Q_charAt_35 Z h0 n0) ({ frames := 2, cells := 0, slots := 0, locals := 27 } : Room).cells ({ frames := 2, cells := 0, slots := 0, locals := 27 } : Room).slots) (s₁.setTop (entryFrame m #[(.ref o0), (.int (6 : Int32))] 2))
  rw [(by first | (simp [entryFrame, mkF, argsToLocals, Value.category]; done) | rfl : entryFrame m #[(.ref o0), (.int (6 : Int32))] 2 = mkF m 0 #[.val (.ref o0), .val (.int (6 : Int32))] [])]
  show own_Go p e below _ (s₁.setTop (mkF m 0 #[.val (.ref o0), .val (.int (6 : Int32))] []))
  refine own_go (fun _ hr => XS.iloadN X0.here hx rfl (hb hby own_d_jdk_43_method_2_code_0) rfl (XS.aloadN X0.here hx rfl (hb hby own_d_jdk_43_method_2_code_1) rfl rfl (own_alen X0 hx hZ e0 P0 rfl rfl (hb hby own_d_jdk_43_method_2_code_2) hr))) ?_
  show own_Go p e below _ (s₁.setTop (mkF m 3 #[.val (.ref o0), .val (.int (6 : Int32))] [(.int (10 : Int32)), (.int (6 : Int32))]))
  refine own_cs X0 hx hZ hown (hw _ (own_m 47 rfl)) (hw _ (own_m 48 rfl)) (hw _ (own_m 21 rfl)) (hw _ (own_m 49 rfl)) (by decide) (rm := { frames := 1, cells := 0, slots := 0, locals := 14 }) (rm_checkIndex_34 l Z a0 hw [] vv0 h0 n0 Z0 P1 hvv0) (by decide) (W := 0) (by decide) (by decide) (by decide) e0 (by rw [hml]; rfl) (argsL := [(.int (6 : Int32)), (.int (10 : Int32))]) (lenOf own_pd6 rfl) (rest := []) rfl rfl (Nat.le_of_eq rfl) (hb hby own_d_jdk_43_method_2_code_3) ?_
  intro _ T1 L1 X1 hQ1
  obtain ⟨rfl, N1q, e1⟩ := hQ1
  have N1 := Fr.app N0 N1q
  show own_Go p e below _ (T1.setTop (mkF m 6 #[.val (.ref o0), .val (.int (6 : Int32))] []))
  refine own_go (fun _ hr => XS.aloadN X1.here hx rfl (hb hby own_d_jdk_43_method_2_code_6) rfl rfl (XS.iloadN X1.here hx rfl (hb hby own_d_jdk_43_method_2_code_7) rfl (own_baload X1 hx hZ e1 P0 (6 : Int32) (.int (95 : Int32)) ⟨by decide, by decide⟩ rfl rfl rfl (hb hby own_d_jdk_43_method_2_code_8) (XS.sipush X1.here hx rfl (hb hby own_d_jdk_43_method_2_code_9) (XS.iand X1.here hx rfl (hb hby own_d_jdk_43_method_2_code_12) rfl (XS.i2c X1.here hx rfl (hb hby own_d_jdk_43_method_2_code_13) rfl hr)))))) ?_
  show own_Go p e below _ (T1.setTop (mkF m 14 #[.val (.ref o0), .val (.int (6 : Int32))] [(.int (95 : Int32))]))
  exact own_retN X1 hx hlk Bd.returns (t := .char) (by simp) (hb hby own_d_jdk_43_method_2_code_14) (by decide) (by decide) ⟨rfl, N1, e1⟩
def Q_charAt_36 (Z : State) (h0 : Heap) (n0 : Nat) (v : Option Value) (h : Heap) (L : List Loc) : Prop := v = some (.int (95 : Int32)) ∧ Fr n0 L ∧ h = h0
set_option maxRecDepth 65536 in
set_option maxHeartbeats 40000000 in
theorem rm_charAt_36 (l : Launch) (Z : State) (a0 : Array Value) (hw : ∀ d ∈ tables_1, d.before a0 Z = true) (ws : List Jvm.Cond) (o0 : Addr) (y0 : Int32) (o1 : Addr) (kc0 : ClassId) (vv0 : Value) (h0 : Heap) (n0 : Nat) (Z0 : n0 ≤ h0.size) (P0 : Sta Z h0 "java/lang/String" "COMPACT_STRINGS" "Z" (.int y0)) (P1 : Fld Z h0 o0 "java/lang/String" "coder" "B" (.int (0 : Int32))) (P2 : Exa Z h0 o0 "java/lang/String") (P3 : Fld Z h0 o0 "java/lang/String" "value" "[B" (.ref o1)) (P4 : Arv Z h0 o1 kc0 .byte (10 : Int32) [(.int (99 : Int32)), (.int (104 : Int32)), (.int (97 : Int32)), (.int (114 : Int32)), (.int (103 : Int32)), (.int (101 : Int32)), (.int (95 : Int32)), (.int (121 : Int32)), (.int (101 : Int32)), (.int (110 : Int32))] (.int (0 : Int32))) (P5 : Sta Z h0 "jdk/internal/util/Preconditions" "SIOOBE_FORMATTER" "Ljava/util/function/BiFunction;" vv0) (hvv0 : vv0.isRef = true) (hb0 : ¬ (y0 = (0 : Int32))) :
    MetFree l (⟨"java/lang/String", "charAt", "(I)C"⟩ : MethodName) (head1 (Jvm.Cond.code (⟨"java/lang/String", "charAt", "(I)C"⟩ : MethodName) jdk_42_method_56_code 2 (some .char) :: ws) ({ frames := 3, cells := 0, slots := 0, locals := 40 } : Room)) (fun aA U => aA = #[(.ref o0), (.int (6 : Int32))] ∧ Z.Warmed39 U.vm ∧ U.heap = h0) (fun _ _ _ _ _ => True) (fun _ U o U' => ∃ v L, o = .returned v ∧ Q_charAt_36 Z h0 n0 v U'.heap L ∧ FrameEnd U o U' L ({ frames := 3, cells := 0, slots := 0, locals := 40 } : Room).cells ({ frames := 3, cells := 0, slots := 0, locals := 40 } : Room).slots) := by
  refine MetFree.of_bodySF (plainFor_of_name own_pn_java_lang_String) hisR ?_
  intro p e s m args below meth c s₁ Bd hml0 hP hK
  obtain ⟨rfl, hZ, hh⟩ := hP
  have hx := Bd.exec
  have hby := Bd.bytes
  have hlk : meth.locks = false := BodyLoose.notSynchronized Bd
  have hml : c.maxLocals = 2 := hml0
  have hown : s.vm.findClass "java/lang/String" = some m.cls := findClass_of_methodNamed Bd.named
  have hnm := (name_of_methodNamed Bd.named Bd.method).1
  have X0 : Stand p l e ({ frames := 3, cells := 0, slots := 0, locals := 40 } : Room) s m #[(.ref o0), (.int (6 : Int32))] below meth c s₁ [] 0 0 := Stand.of_body Bd
  have e0 : s₁.heap = h0 := by rw [← hh, Bd.state]; rfl
  have N0 := Fr.nil n0
  show own_Go p e below (own_K s (Q_charAt_36 Z h0 n0) ({ frames := 3, cells := 0, slots := 0, locals := 40 } : Room).cells ({ frames := 3, cells := 0, slots := 0, locals := 40 } : Room).slots) (s₁.setTop (entryFrame m #[(.ref o0), (.int (6 : Int32))] 2))
  rw [(by first | (simp [entryFrame, mkF, argsToLocals, Value.category]; done) | rfl : entryFrame m #[(.ref o0), (.int (6 : Int32))] 2 = mkF m 0 #[.val (.ref o0), .val (.int (6 : Int32))] [])]
  show own_Go p e below _ (s₁.setTop (mkF m 0 #[.val (.ref o0), .val (.int (6 : Int32))] []))
  refine own_go (fun _ hr => XS.aloadN X0.here hx rfl (hb hby own_d_jdk_42_method_56_code_0) rfl rfl hr) ?_
  show own_Go p e below _ (s₁.setTop (mkF m 1 #[.val (.ref o0), .val (.int (6 : Int32))] [(.ref o0)]))
  refine own_cv X0 hx hZ hown (notFace_of_selects (args := #[]) (mvT hZ (hw _ (own_m 41 rfl)))) (hw _ (own_m 38 rfl)) (hw _ (own_m 39 rfl)) (hw _ (own_m 41 rfl)) (hw _ (own_m 40 rfl)) (hw _ (own_m 21 rfl)) (hw _ (own_m 42 rfl)) (by decide) P2 (rm := { frames := 0, cells := 0, slots := 0, locals := 0 }) (rm_isLatin1_4 l Z a0 hw [] o0 y0 h0 n0 Z0 P0 P1 hb0) (by decide) (W := 0) (by decide) (by decide) (by decide) e0 (by rw [hml]; rfl) (argsL := []) (lenOf own_pd4 rfl) (rest := []) rfl rfl (Nat.le_of_eq rfl) (hb hby own_d_jdk_42_method_56_code_1) ?_
  intro _ T1 L1 X1 hQ1
  obtain ⟨rfl, N1q, e1⟩ := hQ1
  have N1 := Fr.app N0 N1q
  show own_Go p e below _ (T1.setTop (mkF m 4 #[.val (.ref o0), .val (.int (6 : Int32))] [(.int (1 : Int32))]))
  refine own_go (fun _ hr => XS.ifNo X1.here hx rfl (hb hby own_d_jdk_42_method_56_code_4) rfl ((if0 _ _).trans (feq (by decide)).1) (XS.aloadN X1.here hx rfl (hb hby own_d_jdk_42_method_56_code_7) rfl rfl hr)) ?_
  show own_Go p e below _ (T1.setTop (mkF m 8 #[.val (.ref o0), .val (.int (6 : Int32))] [(.ref o0)]))
  obtain ⟨T2, X2, e2, st2⟩ := getF X1 hx hZ hown (host := "") (Or.inl (hw _ (own_m 23 rfl))) Via.refl e1 P3 (g := (mkF m 8 #[.val (.ref o0), .val (.int (6 : Int32))] [(.ref o0)])) rfl rfl (hb hby own_d_jdk_42_method_56_code_8)
  refine own_go st2 ?_
  show own_Go p e below _ (T2.setTop (mkF m 11 #[.val (.ref o0), .val (.int (6 : Int32))] [(.ref o1)]))
  refine own_go (fun _ hr => XS.iloadN X2.here hx rfl (hb hby own_d_jdk_42_method_56_code_11) rfl hr) ?_
  show own_Go p e below _ (T2.setTop (mkF m 12 #[.val (.ref o0), .val (.int (6 : Int32))] [(.int (6 : Int32)), (.ref o1)]))
  refine own_cs X2 hx hZ hown (hw _ (own_m 43 rfl)) (hw _ (own_m 44 rfl)) (hw _ (own_m 45 rfl)) (hw _ (own_m 46 rfl)) (by decide) (rm := { frames := 2, cells := 0, slots := 0, locals := 27 }) (rm_charAt_35 l Z a0 hw [] o1 kc0 vv0 h0 n0 Z0 P4 P5 hvv0) (by decide) (W := 0) (by decide) (by decide) (by decide) e2 (by rw [hml]; rfl) (argsL := [(.ref o1), (.int (6 : Int32))]) (lenOf own_pd7 rfl) (rest := []) rfl rfl (Nat.le_of_eq rfl) (hb hby own_d_jdk_42_method_56_code_12) ?_
  intro _ T3 L3 X3 hQ3
  obtain ⟨rfl, N3q, e3⟩ := hQ3
  have N3 := Fr.app N1 N3q
  show own_Go p e below _ (T3.setTop (mkF m 15 #[.val (.ref o0), .val (.int (6 : Int32))] [(.int (95 : Int32))]))
  exact own_retN X3 hx hlk Bd.returns (t := .char) (by simp) (hb hby own_d_jdk_42_method_56_code_15) (by decide) (by decide) ⟨rfl, N3, e3⟩
def Q_checkIndex_37 (Z : State) (h0 : Heap) (n0 : Nat) (v : Option Value) (h : Heap) (L : List Loc) : Prop := v = some (.int (7 : Int32)) ∧ Fr n0 L ∧ h = h0
set_option maxRecDepth 65536 in
set_option maxHeartbeats 40000000 in
theorem rm_checkIndex_37 (l : Launch) (Z : State) (a0 : Array Value) (hw : ∀ d ∈ tables_1, d.before a0 Z = true) (ws : List Jvm.Cond) (vv0 : Value) (h0 : Heap) (n0 : Nat) (Z0 : n0 ≤ h0.size) (hvv0 : vv0.isRef = true) :
    MetFree l (⟨"jdk/internal/util/Preconditions", "checkIndex", "(IILjava/util/function/BiFunction;)I"⟩ : MethodName) (head1 (Jvm.Cond.code (⟨"jdk/internal/util/Preconditions", "checkIndex", "(IILjava/util/function/BiFunction;)I"⟩ : MethodName) jdk_41_method_11_code 3 (some .int) :: ws) ({ frames := 0, cells := 0, slots := 0, locals := 0 } : Room)) (fun aA U => aA = #[(.int (7 : Int32)), (.int (10 : Int32)), vv0] ∧ Z.Warmed39 U.vm ∧ U.heap = h0) (fun _ _ _ _ _ => True) (fun _ U o U' => ∃ v L, o = .returned v ∧ Q_checkIndex_37 Z h0 n0 v U'.heap L ∧ FrameEnd U o U' L ({ frames := 0, cells := 0, slots := 0, locals := 0 } : Room).cells ({ frames := 0, cells := 0, slots := 0, locals := 0 } : Room).slots) := by
  refine MetFree.of_bodySF (plainFor_of_name own_pn_jdk_internal_util_Preconditions) hisR ?_
  intro p e s m args below meth c s₁ Bd hml0 hP hK
  obtain ⟨rfl, hZ, hh⟩ := hP
  have hx := Bd.exec
  have hby := Bd.bytes
  have hlk : meth.locks = false := BodyLoose.notSynchronized Bd
  have hml : c.maxLocals = 3 := hml0
  have hown : s.vm.findClass "jdk/internal/util/Preconditions" = some m.cls := findClass_of_methodNamed Bd.named
  have hnm := (name_of_methodNamed Bd.named Bd.method).1
  have X0 : Stand p l e ({ frames := 0, cells := 0, slots := 0, locals := 0 } : Room) s m #[(.int (7 : Int32)), (.int (10 : Int32)), vv0] below meth c s₁ [] 0 0 := Stand.of_body Bd
  have e0 : s₁.heap = h0 := by rw [← hh, Bd.state]; rfl
  have N0 := Fr.nil n0
  show own_Go p e below (own_K s (Q_checkIndex_37 Z h0 n0) ({ frames := 0, cells := 0, slots := 0, locals := 0 } : Room).cells ({ frames := 0, cells := 0, slots := 0, locals := 0 } : Room).slots) (s₁.setTop (entryFrame m #[(.int (7 : Int32)), (.int (10 : Int32)), vv0] 3))
  rw [(by first | (simp [entryFrame, mkF, argsToLocals, Value.category]; done) | (have q := hvv0; revert q; cases vv0 <;> simp [entryFrame, mkF, argsToLocals, Value.category, Value.isRef]) | rfl : entryFrame m #[(.int (7 : Int32)), (.int (10 : Int32)), vv0] 3 = mkF m 0 #[.val (.int (7 : Int32)), .val (.int (10 : Int32)), .val vv0] [])]
  show own_Go p e below _ (s₁.setTop (mkF m 0 #[.val (.int (7 : Int32)), .val (.int (10 : Int32)), .val vv0] []))
  refine own_go (fun _ hr => XS.iloadN X0.here hx rfl (hb hby own_d_jdk_41_method_11_code_0) rfl (XS.ifNo X0.here hx rfl (hb hby own_d_jdk_41_method_11_code_1) rfl ((if0 _ _).trans (flt (by decide)).1) (XS.iloadN X0.here hx rfl (hb hby own_d_jdk_41_method_11_code_4) rfl (XS.iloadN X0.here hx rfl (hb hby own_d_jdk_41_method_11_code_5) rfl (XS.icmpYes X0.here hx rfl (pc0 := 6) (pc' := 16) rfl (hb hby own_d_jdk_41_method_11_code_6) rfl (tlt (by decide)).1 (by decide) (by decide) (XS.iloadN X0.here hx rfl (hb hby own_d_jdk_41_method_11_code_16) rfl hr)))))) ?_
  show own_Go p e below _ (s₁.setTop (mkF m 17 #[.val (.int (7 : Int32)), .val (.int (10 : Int32)), .val vv0] [(.int (7 : Int32))]))
  exact own_retI X0 hx hlk Bd.returns (hb hby own_d_jdk_41_method_11_code_17) (by decide) (by decide) ⟨rfl, N0, e0⟩
def Q_checkIndex_38 (Z : State) (h0 : Heap) (n0 : Nat) (v : Option Value) (h : Heap) (L : List Loc) : Prop := v = none ∧ Fr n0 L ∧ h = h0
set_option maxRecDepth 65536 in
set_option maxHeartbeats 40000000 in
theorem rm_checkIndex_38 (l : Launch) (Z : State) (a0 : Array Value) (hw : ∀ d ∈ tables_1, d.before a0 Z = true) (ws : List Jvm.Cond) (vv0 : Value) (h0 : Heap) (n0 : Nat) (Z0 : n0 ≤ h0.size) (P0 : Sta Z h0 "jdk/internal/util/Preconditions" "SIOOBE_FORMATTER" "Ljava/util/function/BiFunction;" vv0) (hvv0 : vv0.isRef = true) :
    MetFree l (⟨"java/lang/String", "checkIndex", "(II)V"⟩ : MethodName) (head1 (Jvm.Cond.code (⟨"java/lang/String", "checkIndex", "(II)V"⟩ : MethodName) jdk_42_method_155_code 2 none :: ws) ({ frames := 1, cells := 0, slots := 0, locals := 14 } : Room)) (fun aA U => aA = #[(.int (7 : Int32)), (.int (10 : Int32))] ∧ Z.Warmed39 U.vm ∧ U.heap = h0) (fun _ _ _ _ _ => True) (fun _ U o U' => ∃ v L, o = .returned v ∧ Q_checkIndex_38 Z h0 n0 v U'.heap L ∧ FrameEnd U o U' L ({ frames := 1, cells := 0, slots := 0, locals := 14 } : Room).cells ({ frames := 1, cells := 0, slots := 0, locals := 14 } : Room).slots) := by
  refine MetFree.of_bodySF (plainFor_of_name own_pn_java_lang_String) hisR ?_
  intro p e s m args below meth c s₁ Bd hml0 hP hK
  obtain ⟨rfl, hZ, hh⟩ := hP
  have hx := Bd.exec
  have hby := Bd.bytes
  have hlk : meth.locks = false := BodyLoose.notSynchronized Bd
  have hml : c.maxLocals = 2 := hml0
  have hown : s.vm.findClass "java/lang/String" = some m.cls := findClass_of_methodNamed Bd.named
  have hnm := (name_of_methodNamed Bd.named Bd.method).1
  have X0 : Stand p l e ({ frames := 1, cells := 0, slots := 0, locals := 14 } : Room) s m #[(.int (7 : Int32)), (.int (10 : Int32))] below meth c s₁ [] 0 0 := Stand.of_body Bd
  have e0 : s₁.heap = h0 := by rw [← hh, Bd.state]; rfl
  have N0 := Fr.nil n0
  show own_Go p e below (own_K s (Q_checkIndex_38 Z h0 n0) ({ frames := 1, cells := 0, slots := 0, locals := 14 } : Room).cells ({ frames := 1, cells := 0, slots := 0, locals := 14 } : Room).slots) (s₁.setTop (entryFrame m #[(.int (7 : Int32)), (.int (10 : Int32))] 2))
  rw [(by first | (simp [entryFrame, mkF, argsToLocals, Value.category]; done) | rfl : entryFrame m #[(.int (7 : Int32)), (.int (10 : Int32))] 2 = mkF m 0 #[.val (.int (7 : Int32)), .val (.int (10 : Int32))] [])]
  show own_Go p e below _ (s₁.setTop (mkF m 0 #[.val (.int (7 : Int32)), .val (.int (10 : Int32))] []))
  refine own_go (fun _ hr => XS.iloadN X0.here hx rfl (hb hby own_d_jdk_42_method_155_code_0) rfl (XS.iloadN X0.here hx rfl (hb hby own_d_jdk_42_method_155_code_1) rfl hr)) ?_
  show own_Go p e below _ (s₁.setTop (mkF m 2 #[.val (.int (7 : Int32)), .val (.int (10 : Int32))] [(.int (10 : Int32)), (.int (7 : Int32))]))
  obtain ⟨T1, X1, e1, st1⟩ := getS2 X0 hx hZ hown (host := "") (Or.inl (hw _ (own_m 50 rfl))) Via.refl e0 P0 (g := (mkF m 2 #[.val (.int (7 : Int32)), .val (.int (10 : Int32))] [(.int (10 : Int32)), (.int (7 : Int32))])) rfl (hb hby own_d_jdk_42_method_155_code_2)
  refine own_go st1 ?_
  show own_Go p e below _ (T1.setTop (mkF m 5 #[.val (.int (7 : Int32)), .val (.int (10 : Int32))] [vv0, (.int (10 : Int32)), (.int (7 : Int32))]))
  refine own_cs X1 hx hZ hown (hw _ (own_m 52 rfl)) (hw _ (own_m 53 rfl)) (hw _ (own_m 51 rfl)) (hw _ (own_m 54 rfl)) (by decide) (rm := { frames := 0, cells := 0, slots := 0, locals := 0 }) (rm_checkIndex_37 l Z a0 hw [] vv0 h0 n0 Z0 hvv0) (by decide) (W := 0) (by decide) (by decide) (by decide) e1 (by rw [hml]; rfl) (argsL := [(.int (7 : Int32)), (.int (10 : Int32)), vv0]) (lenOf own_pd5 rfl) (rest := []) rfl rfl (Nat.le_of_eq rfl) (hb hby own_d_jdk_42_method_155_code_5) ?_
  intro _ T2 L2 X2 hQ2
  obtain ⟨rfl, N2q, e2⟩ := hQ2
  have N2 := Fr.app N0 N2q
  show own_Go p e below _ (T2.setTop (mkF m 8 #[.val (.int (7 : Int32)), .val (.int (10 : Int32))] [(.int (7 : Int32))]))
  refine own_go (fun _ hr => XS.pop X2.here hx rfl (hb hby own_d_jdk_42_method_155_code_8) rfl rfl hr) ?_
  show own_Go p e below _ (T2.setTop (mkF m 9 #[.val (.int (7 : Int32)), .val (.int (10 : Int32))] []))
  exact own_ret0 X2 hx hlk Bd.returns (hb hby own_d_jdk_42_method_155_code_9) (by decide) (by decide) ⟨rfl, N2, e2⟩
def Q_charAt_39 (Z : State) (h0 : Heap) (n0 : Nat) (v : Option Value) (h : Heap) (L : List Loc) : Prop := v = some (.int (121 : Int32)) ∧ Fr n0 L ∧ h = h0
set_option maxRecDepth 65536 in
set_option maxHeartbeats 40000000 in
theorem rm_charAt_39 (l : Launch) (Z : State) (a0 : Array Value) (hw : ∀ d ∈ tables_1, d.before a0 Z = true) (ws : List Jvm.Cond) (o0 : Addr) (kc0 : ClassId) (vv0 : Value) (h0 : Heap) (n0 : Nat) (Z0 : n0 ≤ h0.size) (P0 : Arv Z h0 o0 kc0 .byte (10 : Int32) [(.int (99 : Int32)), (.int (104 : Int32)), (.int (97 : Int32)), (.int (114 : Int32)), (.int (103 : Int32)), (.int (101 : Int32)), (.int (95 : Int32)), (.int (121 : Int32)), (.int (101 : Int32)), (.int (110 : Int32))] (.int (0 : Int32))) (P1 : Sta Z h0 "jdk/internal/util/Preconditions" "SIOOBE_FORMATTER" "Ljava/util/function/BiFunction;" vv0) (hvv0 : vv0.isRef = true) :
    MetFree l (⟨"java/lang/StringLatin1", "charAt", "([BI)C"⟩ : MethodName) (head1 (Jvm.Cond.code (⟨"java/lang/StringLatin1", "charAt", "([BI)C"⟩ : MethodName) jdk_43_method_2_code 2 (some .char) :: ws) ({ frames := 2, cells := 0, slots := 0, locals := 27 } : Room)) (fun aA U => aA = #[(.ref o0), (.int (7 : Int32))] ∧ Z.Warmed39 U.vm ∧ U.heap = h0) (fun _ _ _ _ _ => True) (fun _ U o U' => ∃ v L, o = .returned v ∧ Q_charAt_39 Z h0 n0 v U'.heap L ∧ FrameEnd U o U' L ({ frames := 2, cells := 0, slots := 0, locals := 27 } : Room).cells ({ frames := 2, cells := 0, slots := 0, locals := 27 } : Room).slots) := by
  refine MetFree.of_bodySF (plainFor_of_name own_pn_java_lang_StringLatin1) hisR ?_
  intro p e s m args below meth c s₁ Bd hml0 hP hK
  obtain ⟨rfl, hZ, hh⟩ := hP
  have hx := Bd.exec
  have hby := Bd.bytes
  have hlk : meth.locks = false := BodyLoose.notSynchronized Bd
  have hml : c.maxLocals = 2 := hml0
  have hown : s.vm.findClass "java/lang/StringLatin1" = some m.cls := findClass_of_methodNamed Bd.named
  have hnm := (name_of_methodNamed Bd.named Bd.method).1
  have X0 : Stand p l e ({ frames := 2, cells := 0, slots := 0, locals := 27 } : Room) s m #[(.ref o0), (.int (7 : Int32))] below meth c s₁ [] 0 0 := Stand.of_body Bd
  have e0 : s₁.heap = h0 := by rw [← hh, Bd.state]; rfl
  have N0 := Fr.nil n0
  show own_Go p e below (own_K s (Q_charAt_39 Z h0 n0) ({ frames := 2, cells := 0, slots := 0, locals := 27 } : Room).cells ({ frames := 2, cells := 0, slots := 0, locals := 27 } : Room).slots) (s₁.setTop (entryFrame m #[(.ref o0), (.int (7 : Int32))] 2))
  rw [(by first | (simp [entryFrame, mkF, argsToLocals, Value.category]; done) | rfl : entryFrame m #[(.ref o0), (.int (7 : Int32))] 2 = mkF m 0 #[.val (.ref o0), .val (.int (7 : Int32))] [])]
  show own_Go p e below _ (s₁.setTop (mkF m 0 #[.val (.ref o0), .val (.int (7 : Int32))] []))
  refine own_go (fun _ hr => XS.iloadN X0.here hx rfl (hb hby own_d_jdk_43_method_2_code_0) rfl (XS.aloadN X0.here hx rfl (hb hby own_d_jdk_43_method_2_code_1) rfl rfl (own_alen X0 hx hZ e0 P0 rfl rfl (hb hby own_d_jdk_43_method_2_code_2) hr))) ?_
  show own_Go p e below _ (s₁.setTop (mkF m 3 #[.val (.ref o0), .val (.int (7 : Int32))] [(.int (10 : Int32)), (.int (7 : Int32))]))
  refine own_cs X0 hx hZ hown (hw _ (own_m 47 rfl)) (hw _ (own_m 48 rfl)) (hw _ (own_m 21 rfl)) (hw _ (own_m 49 rfl)) (by decide) (rm := { frames := 1, cells := 0, slots := 0, locals := 14 }) (rm_checkIndex_38 l Z a0 hw [] vv0 h0 n0 Z0 P1 hvv0) (by decide) (W := 0) (by decide) (by decide) (by decide) e0 (by rw [hml]; rfl) (argsL := [(.int (7 : Int32)), (.int (10 : Int32))]) (lenOf own_pd6 rfl) (rest := []) rfl rfl (Nat.le_of_eq rfl) (hb hby own_d_jdk_43_method_2_code_3) ?_
  intro _ T1 L1 X1 hQ1
  obtain ⟨rfl, N1q, e1⟩ := hQ1
  have N1 := Fr.app N0 N1q
  show own_Go p e below _ (T1.setTop (mkF m 6 #[.val (.ref o0), .val (.int (7 : Int32))] []))
  refine own_go (fun _ hr => XS.aloadN X1.here hx rfl (hb hby own_d_jdk_43_method_2_code_6) rfl rfl (XS.iloadN X1.here hx rfl (hb hby own_d_jdk_43_method_2_code_7) rfl (own_baload X1 hx hZ e1 P0 (7 : Int32) (.int (121 : Int32)) ⟨by decide, by decide⟩ rfl rfl rfl (hb hby own_d_jdk_43_method_2_code_8) (XS.sipush X1.here hx rfl (hb hby own_d_jdk_43_method_2_code_9) (XS.iand X1.here hx rfl (hb hby own_d_jdk_43_method_2_code_12) rfl (XS.i2c X1.here hx rfl (hb hby own_d_jdk_43_method_2_code_13) rfl hr)))))) ?_
  show own_Go p e below _ (T1.setTop (mkF m 14 #[.val (.ref o0), .val (.int (7 : Int32))] [(.int (121 : Int32))]))
  exact own_retN X1 hx hlk Bd.returns (t := .char) (by simp) (hb hby own_d_jdk_43_method_2_code_14) (by decide) (by decide) ⟨rfl, N1, e1⟩
def Q_charAt_40 (Z : State) (h0 : Heap) (n0 : Nat) (v : Option Value) (h : Heap) (L : List Loc) : Prop := v = some (.int (121 : Int32)) ∧ Fr n0 L ∧ h = h0
set_option maxRecDepth 65536 in
set_option maxHeartbeats 40000000 in
theorem rm_charAt_40 (l : Launch) (Z : State) (a0 : Array Value) (hw : ∀ d ∈ tables_1, d.before a0 Z = true) (ws : List Jvm.Cond) (o0 : Addr) (y0 : Int32) (o1 : Addr) (kc0 : ClassId) (vv0 : Value) (h0 : Heap) (n0 : Nat) (Z0 : n0 ≤ h0.size) (P0 : Sta Z h0 "java/lang/String" "COMPACT_STRINGS" "Z" (.int y0)) (P1 : Fld Z h0 o0 "java/lang/String" "coder" "B" (.int (0 : Int32))) (P2 : Exa Z h0 o0 "java/lang/String") (P3 : Fld Z h0 o0 "java/lang/String" "value" "[B" (.ref o1)) (P4 : Arv Z h0 o1 kc0 .byte (10 : Int32) [(.int (99 : Int32)), (.int (104 : Int32)), (.int (97 : Int32)), (.int (114 : Int32)), (.int (103 : Int32)), (.int (101 : Int32)), (.int (95 : Int32)), (.int (121 : Int32)), (.int (101 : Int32)), (.int (110 : Int32))] (.int (0 : Int32))) (P5 : Sta Z h0 "jdk/internal/util/Preconditions" "SIOOBE_FORMATTER" "Ljava/util/function/BiFunction;" vv0) (hvv0 : vv0.isRef = true) (hb0 : ¬ (y0 = (0 : Int32))) :
    MetFree l (⟨"java/lang/String", "charAt", "(I)C"⟩ : MethodName) (head1 (Jvm.Cond.code (⟨"java/lang/String", "charAt", "(I)C"⟩ : MethodName) jdk_42_method_56_code 2 (some .char) :: ws) ({ frames := 3, cells := 0, slots := 0, locals := 40 } : Room)) (fun aA U => aA = #[(.ref o0), (.int (7 : Int32))] ∧ Z.Warmed39 U.vm ∧ U.heap = h0) (fun _ _ _ _ _ => True) (fun _ U o U' => ∃ v L, o = .returned v ∧ Q_charAt_40 Z h0 n0 v U'.heap L ∧ FrameEnd U o U' L ({ frames := 3, cells := 0, slots := 0, locals := 40 } : Room).cells ({ frames := 3, cells := 0, slots := 0, locals := 40 } : Room).slots) := by
  refine MetFree.of_bodySF (plainFor_of_name own_pn_java_lang_String) hisR ?_
  intro p e s m args below meth c s₁ Bd hml0 hP hK
  obtain ⟨rfl, hZ, hh⟩ := hP
  have hx := Bd.exec
  have hby := Bd.bytes
  have hlk : meth.locks = false := BodyLoose.notSynchronized Bd
  have hml : c.maxLocals = 2 := hml0
  have hown : s.vm.findClass "java/lang/String" = some m.cls := findClass_of_methodNamed Bd.named
  have hnm := (name_of_methodNamed Bd.named Bd.method).1
  have X0 : Stand p l e ({ frames := 3, cells := 0, slots := 0, locals := 40 } : Room) s m #[(.ref o0), (.int (7 : Int32))] below meth c s₁ [] 0 0 := Stand.of_body Bd
  have e0 : s₁.heap = h0 := by rw [← hh, Bd.state]; rfl
  have N0 := Fr.nil n0
  show own_Go p e below (own_K s (Q_charAt_40 Z h0 n0) ({ frames := 3, cells := 0, slots := 0, locals := 40 } : Room).cells ({ frames := 3, cells := 0, slots := 0, locals := 40 } : Room).slots) (s₁.setTop (entryFrame m #[(.ref o0), (.int (7 : Int32))] 2))
  rw [(by first | (simp [entryFrame, mkF, argsToLocals, Value.category]; done) | rfl : entryFrame m #[(.ref o0), (.int (7 : Int32))] 2 = mkF m 0 #[.val (.ref o0), .val (.int (7 : Int32))] [])]
  show own_Go p e below _ (s₁.setTop (mkF m 0 #[.val (.ref o0), .val (.int (7 : Int32))] []))
  refine own_go (fun _ hr => XS.aloadN X0.here hx rfl (hb hby own_d_jdk_42_method_56_code_0) rfl rfl hr) ?_
  show own_Go p e below _ (s₁.setTop (mkF m 1 #[.val (.ref o0), .val (.int (7 : Int32))] [(.ref o0)]))
  refine own_cv X0 hx hZ hown (notFace_of_selects (args := #[]) (mvT hZ (hw _ (own_m 41 rfl)))) (hw _ (own_m 38 rfl)) (hw _ (own_m 39 rfl)) (hw _ (own_m 41 rfl)) (hw _ (own_m 40 rfl)) (hw _ (own_m 21 rfl)) (hw _ (own_m 42 rfl)) (by decide) P2 (rm := { frames := 0, cells := 0, slots := 0, locals := 0 }) (rm_isLatin1_4 l Z a0 hw [] o0 y0 h0 n0 Z0 P0 P1 hb0) (by decide) (W := 0) (by decide) (by decide) (by decide) e0 (by rw [hml]; rfl) (argsL := []) (lenOf own_pd4 rfl) (rest := []) rfl rfl (Nat.le_of_eq rfl) (hb hby own_d_jdk_42_method_56_code_1) ?_
  intro _ T1 L1 X1 hQ1
  obtain ⟨rfl, N1q, e1⟩ := hQ1
  have N1 := Fr.app N0 N1q
  show own_Go p e below _ (T1.setTop (mkF m 4 #[.val (.ref o0), .val (.int (7 : Int32))] [(.int (1 : Int32))]))
  refine own_go (fun _ hr => XS.ifNo X1.here hx rfl (hb hby own_d_jdk_42_method_56_code_4) rfl ((if0 _ _).trans (feq (by decide)).1) (XS.aloadN X1.here hx rfl (hb hby own_d_jdk_42_method_56_code_7) rfl rfl hr)) ?_
  show own_Go p e below _ (T1.setTop (mkF m 8 #[.val (.ref o0), .val (.int (7 : Int32))] [(.ref o0)]))
  obtain ⟨T2, X2, e2, st2⟩ := getF X1 hx hZ hown (host := "") (Or.inl (hw _ (own_m 23 rfl))) Via.refl e1 P3 (g := (mkF m 8 #[.val (.ref o0), .val (.int (7 : Int32))] [(.ref o0)])) rfl rfl (hb hby own_d_jdk_42_method_56_code_8)
  refine own_go st2 ?_
  show own_Go p e below _ (T2.setTop (mkF m 11 #[.val (.ref o0), .val (.int (7 : Int32))] [(.ref o1)]))
  refine own_go (fun _ hr => XS.iloadN X2.here hx rfl (hb hby own_d_jdk_42_method_56_code_11) rfl hr) ?_
  show own_Go p e below _ (T2.setTop (mkF m 12 #[.val (.ref o0), .val (.int (7 : Int32))] [(.int (7 : Int32)), (.ref o1)]))
  refine own_cs X2 hx hZ hown (hw _ (own_m 43 rfl)) (hw _ (own_m 44 rfl)) (hw _ (own_m 45 rfl)) (hw _ (own_m 46 rfl)) (by decide) (rm := { frames := 2, cells := 0, slots := 0, locals := 27 }) (rm_charAt_39 l Z a0 hw [] o1 kc0 vv0 h0 n0 Z0 P4 P5 hvv0) (by decide) (W := 0) (by decide) (by decide) (by decide) e2 (by rw [hml]; rfl) (argsL := [(.ref o1), (.int (7 : Int32))]) (lenOf own_pd7 rfl) (rest := []) rfl rfl (Nat.le_of_eq rfl) (hb hby own_d_jdk_42_method_56_code_12) ?_
  intro _ T3 L3 X3 hQ3
  obtain ⟨rfl, N3q, e3⟩ := hQ3
  have N3 := Fr.app N1 N3q
  show own_Go p e below _ (T3.setTop (mkF m 15 #[.val (.ref o0), .val (.int (7 : Int32))] [(.int (121 : Int32))]))
  exact own_retN X3 hx hlk Bd.returns (t := .char) (by simp) (hb hby own_d_jdk_42_method_56_code_15) (by decide) (by decide) ⟨rfl, N3, e3⟩
def Q_checkIndex_41 (Z : State) (h0 : Heap) (n0 : Nat) (v : Option Value) (h : Heap) (L : List Loc) : Prop := v = some (.int (8 : Int32)) ∧ Fr n0 L ∧ h = h0
set_option maxRecDepth 65536 in
set_option maxHeartbeats 40000000 in
theorem rm_checkIndex_41 (l : Launch) (Z : State) (a0 : Array Value) (hw : ∀ d ∈ tables_1, d.before a0 Z = true) (ws : List Jvm.Cond) (vv0 : Value) (h0 : Heap) (n0 : Nat) (Z0 : n0 ≤ h0.size) (hvv0 : vv0.isRef = true) :
    MetFree l (⟨"jdk/internal/util/Preconditions", "checkIndex", "(IILjava/util/function/BiFunction;)I"⟩ : MethodName) (head1 (Jvm.Cond.code (⟨"jdk/internal/util/Preconditions", "checkIndex", "(IILjava/util/function/BiFunction;)I"⟩ : MethodName) jdk_41_method_11_code 3 (some .int) :: ws) ({ frames := 0, cells := 0, slots := 0, locals := 0 } : Room)) (fun aA U => aA = #[(.int (8 : Int32)), (.int (10 : Int32)), vv0] ∧ Z.Warmed39 U.vm ∧ U.heap = h0) (fun _ _ _ _ _ => True) (fun _ U o U' => ∃ v L, o = .returned v ∧ Q_checkIndex_41 Z h0 n0 v U'.heap L ∧ FrameEnd U o U' L ({ frames := 0, cells := 0, slots := 0, locals := 0 } : Room).cells ({ frames := 0, cells := 0, slots := 0, locals := 0 } : Room).slots) := by
  refine MetFree.of_bodySF (plainFor_of_name own_pn_jdk_internal_util_Preconditions) hisR ?_
  intro p e s m args below meth c s₁ Bd hml0 hP hK
  obtain ⟨rfl, hZ, hh⟩ := hP
  have hx := Bd.exec
  have hby := Bd.bytes
  have hlk : meth.locks = false := BodyLoose.notSynchronized Bd
  have hml : c.maxLocals = 3 := hml0
  have hown : s.vm.findClass "jdk/internal/util/Preconditions" = some m.cls := findClass_of_methodNamed Bd.named
  have hnm := (name_of_methodNamed Bd.named Bd.method).1
  have X0 : Stand p l e ({ frames := 0, cells := 0, slots := 0, locals := 0 } : Room) s m #[(.int (8 : Int32)), (.int (10 : Int32)), vv0] below meth c s₁ [] 0 0 := Stand.of_body Bd
  have e0 : s₁.heap = h0 := by rw [← hh, Bd.state]; rfl
  have N0 := Fr.nil n0
  show own_Go p e below (own_K s (Q_checkIndex_41 Z h0 n0) ({ frames := 0, cells := 0, slots := 0, locals := 0 } : Room).cells ({ frames := 0, cells := 0, slots := 0, locals := 0 } : Room).slots) (s₁.setTop (entryFrame m #[(.int (8 : Int32)), (.int (10 : Int32)), vv0] 3))
  rw [(by first | (simp [entryFrame, mkF, argsToLocals, Value.category]; done) | (have q := hvv0; revert q; cases vv0 <;> simp [entryFrame, mkF, argsToLocals, Value.category, Value.isRef]) | rfl : entryFrame m #[(.int (8 : Int32)), (.int (10 : Int32)), vv0] 3 = mkF m 0 #[.val (.int (8 : Int32)), .val (.int (10 : Int32)), .val vv0] [])]
  show own_Go p e below _ (s₁.setTop (mkF m 0 #[.val (.int (8 : Int32)), .val (.int (10 : Int32)), .val vv0] []))
  refine own_go (fun _ hr => XS.iloadN X0.here hx rfl (hb hby own_d_jdk_41_method_11_code_0) rfl (XS.ifNo X0.here hx rfl (hb hby own_d_jdk_41_method_11_code_1) rfl ((if0 _ _).trans (flt (by decide)).1) (XS.iloadN X0.here hx rfl (hb hby own_d_jdk_41_method_11_code_4) rfl (XS.iloadN X0.here hx rfl (hb hby own_d_jdk_41_method_11_code_5) rfl (XS.icmpYes X0.here hx rfl (pc0 := 6) (pc' := 16) rfl (hb hby own_d_jdk_41_method_11_code_6) rfl (tlt (by decide)).1 (by decide) (by decide) (XS.iloadN X0.here hx rfl (hb hby own_d_jdk_41_method_11_code_16) rfl hr)))))) ?_
  show own_Go p e below _ (s₁.setTop (mkF m 17 #[.val (.int (8 : Int32)), .val (.int (10 : Int32)), .val vv0] [(.int (8 : Int32))]))
  exact own_retI X0 hx hlk Bd.returns (hb hby own_d_jdk_41_method_11_code_17) (by decide) (by decide) ⟨rfl, N0, e0⟩
def Q_checkIndex_42 (Z : State) (h0 : Heap) (n0 : Nat) (v : Option Value) (h : Heap) (L : List Loc) : Prop := v = none ∧ Fr n0 L ∧ h = h0
set_option maxRecDepth 65536 in
set_option maxHeartbeats 40000000 in
theorem rm_checkIndex_42 (l : Launch) (Z : State) (a0 : Array Value) (hw : ∀ d ∈ tables_1, d.before a0 Z = true) (ws : List Jvm.Cond) (vv0 : Value) (h0 : Heap) (n0 : Nat) (Z0 : n0 ≤ h0.size) (P0 : Sta Z h0 "jdk/internal/util/Preconditions" "SIOOBE_FORMATTER" "Ljava/util/function/BiFunction;" vv0) (hvv0 : vv0.isRef = true) :
    MetFree l (⟨"java/lang/String", "checkIndex", "(II)V"⟩ : MethodName) (head1 (Jvm.Cond.code (⟨"java/lang/String", "checkIndex", "(II)V"⟩ : MethodName) jdk_42_method_155_code 2 none :: ws) ({ frames := 1, cells := 0, slots := 0, locals := 14 } : Room)) (fun aA U => aA = #[(.int (8 : Int32)), (.int (10 : Int32))] ∧ Z.Warmed39 U.vm ∧ U.heap = h0) (fun _ _ _ _ _ => True) (fun _ U o U' => ∃ v L, o = .returned v ∧ Q_checkIndex_42 Z h0 n0 v U'.heap L ∧ FrameEnd U o U' L ({ frames := 1, cells := 0, slots := 0, locals := 14 } : Room).cells ({ frames := 1, cells := 0, slots := 0, locals := 14 } : Room).slots) := by
  refine MetFree.of_bodySF (plainFor_of_name own_pn_java_lang_String) hisR ?_
  intro p e s m args below meth c s₁ Bd hml0 hP hK
  obtain ⟨rfl, hZ, hh⟩ := hP
  have hx := Bd.exec
  have hby := Bd.bytes
  have hlk : meth.locks = false := BodyLoose.notSynchronized Bd
  have hml : c.maxLocals = 2 := hml0
  have hown : s.vm.findClass "java/lang/String" = some m.cls := findClass_of_methodNamed Bd.named
  have hnm := (name_of_methodNamed Bd.named Bd.method).1
  have X0 : Stand p l e ({ frames := 1, cells := 0, slots := 0, locals := 14 } : Room) s m #[(.int (8 : Int32)), (.int (10 : Int32))] below meth c s₁ [] 0 0 := Stand.of_body Bd
  have e0 : s₁.heap = h0 := by rw [← hh, Bd.state]; rfl
  have N0 := Fr.nil n0
  show own_Go p e below (own_K s (Q_checkIndex_42 Z h0 n0) ({ frames := 1, cells := 0, slots := 0, locals := 14 } : Room).cells ({ frames := 1, cells := 0, slots := 0, locals := 14 } : Room).slots) (s₁.setTop (entryFrame m #[(.int (8 : Int32)), (.int (10 : Int32))] 2))
  rw [(by first | (simp [entryFrame, mkF, argsToLocals, Value.category]; done) | rfl : entryFrame m #[(.int (8 : Int32)), (.int (10 : Int32))] 2 = mkF m 0 #[.val (.int (8 : Int32)), .val (.int (10 : Int32))] [])]
  show own_Go p e below _ (s₁.setTop (mkF m 0 #[.val (.int (8 : Int32)), .val (.int (10 : Int32))] []))
  refine own_go (fun _ hr => XS.iloadN X0.here hx rfl (hb hby own_d_jdk_42_method_155_code_0) rfl (XS.iloadN X0.here hx rfl (hb hby own_d_jdk_42_method_155_code_1) rfl hr)) ?_
  show own_Go p e below _ (s₁.setTop (mkF m 2 #[.val (.int (8 : Int32)), .val (.int (10 : Int32))] [(.int (10 : Int32)), (.int (8 : Int32))]))
  obtain ⟨T1, X1, e1, st1⟩ := getS2 X0 hx hZ hown (host := "") (Or.inl (hw _ (own_m 50 rfl))) Via.refl e0 P0 (g := (mkF m 2 #[.val (.int (8 : Int32)), .val (.int (10 : Int32))] [(.int (10 : Int32)), (.int (8 : Int32))])) rfl (hb hby own_d_jdk_42_method_155_code_2)
  refine own_go st1 ?_
  show own_Go p e below _ (T1.setTop (mkF m 5 #[.val (.int (8 : Int32)), .val (.int (10 : Int32))] [vv0, (.int (10 : Int32)), (.int (8 : Int32))]))
  refine own_cs X1 hx hZ hown (hw _ (own_m 52 rfl)) (hw _ (own_m 53 rfl)) (hw _ (own_m 51 rfl)) (hw _ (own_m 54 rfl)) (by decide) (rm := { frames := 0, cells := 0, slots := 0, locals := 0 }) (rm_checkIndex_41 l Z a0 hw [] vv0 h0 n0 Z0 hvv0) (by decide) (W := 0) (by decide) (by decide) (by decide) e1 (by rw [hml]; rfl) (argsL := [(.int (8 : Int32)), (.int (10 : Int32)), vv0]) (lenOf own_pd5 rfl) (rest := []) rfl rfl (Nat.le_of_eq rfl) (hb hby own_d_jdk_42_method_155_code_5) ?_
  intro _ T2 L2 X2 hQ2
  obtain ⟨rfl, N2q, e2⟩ := hQ2
  have N2 := Fr.app N0 N2q
  show own_Go p e below _ (T2.setTop (mkF m 8 #[.val (.int (8 : Int32)), .val (.int (10 : Int32))] [(.int (8 : Int32))]))
  refine own_go (fun _ hr => XS.pop X2.here hx rfl (hb hby own_d_jdk_42_method_155_code_8) rfl rfl hr) ?_
  show own_Go p e below _ (T2.setTop (mkF m 9 #[.val (.int (8 : Int32)), .val (.int (10 : Int32))] []))
  exact own_ret0 X2 hx hlk Bd.returns (hb hby own_d_jdk_42_method_155_code_9) (by decide) (by decide) ⟨rfl, N2, e2⟩
def Q_charAt_43 (Z : State) (h0 : Heap) (n0 : Nat) (v : Option Value) (h : Heap) (L : List Loc) : Prop := v = some (.int (101 : Int32)) ∧ Fr n0 L ∧ h = h0
set_option maxRecDepth 65536 in
set_option maxHeartbeats 40000000 in
theorem rm_charAt_43 (l : Launch) (Z : State) (a0 : Array Value) (hw : ∀ d ∈ tables_1, d.before a0 Z = true) (ws : List Jvm.Cond) (o0 : Addr) (kc0 : ClassId) (vv0 : Value) (h0 : Heap) (n0 : Nat) (Z0 : n0 ≤ h0.size) (P0 : Arv Z h0 o0 kc0 .byte (10 : Int32) [(.int (99 : Int32)), (.int (104 : Int32)), (.int (97 : Int32)), (.int (114 : Int32)), (.int (103 : Int32)), (.int (101 : Int32)), (.int (95 : Int32)), (.int (121 : Int32)), (.int (101 : Int32)), (.int (110 : Int32))] (.int (0 : Int32))) (P1 : Sta Z h0 "jdk/internal/util/Preconditions" "SIOOBE_FORMATTER" "Ljava/util/function/BiFunction;" vv0) (hvv0 : vv0.isRef = true) :
    MetFree l (⟨"java/lang/StringLatin1", "charAt", "([BI)C"⟩ : MethodName) (head1 (Jvm.Cond.code (⟨"java/lang/StringLatin1", "charAt", "([BI)C"⟩ : MethodName) jdk_43_method_2_code 2 (some .char) :: ws) ({ frames := 2, cells := 0, slots := 0, locals := 27 } : Room)) (fun aA U => aA = #[(.ref o0), (.int (8 : Int32))] ∧ Z.Warmed39 U.vm ∧ U.heap = h0) (fun _ _ _ _ _ => True) (fun _ U o U' => ∃ v L, o = .returned v ∧ Q_charAt_43 Z h0 n0 v U'.heap L ∧ FrameEnd U o U' L ({ frames := 2, cells := 0, slots := 0, locals := 27 } : Room).cells ({ frames := 2, cells := 0, slots := 0, locals := 27 } : Room).slots) := by
  refine MetFree.of_bodySF (plainFor_of_name own_pn_java_lang_StringLatin1) hisR ?_
  intro p e s m args below meth c s₁ Bd hml0 hP hK
  obtain ⟨rfl, hZ, hh⟩ := hP
  have hx := Bd.exec
  have hby := Bd.bytes
  have hlk : meth.locks = false := BodyLoose.notSynchronized Bd
  have hml : c.maxLocals = 2 := hml0
  have hown : s.vm.findClass "java/lang/StringLatin1" = some m.cls := findClass_of_methodNamed Bd.named
  have hnm := (name_of_methodNamed Bd.named Bd.method).1
  have X0 : Stand p l e ({ frames := 2, cells := 0, slots := 0, locals := 27 } : Room) s m #[(.ref o0), (.int (8 : Int32))] below meth c s₁ [] 0 0 := Stand.of_body Bd
  have e0 : s₁.heap = h0 := by rw [← hh, Bd.state]; rfl
  have N0 := Fr.nil n0
  show own_Go p e below (own_K s (Q_charAt_43 Z h0 n0) ({ frames := 2, cells := 0, slots := 0, locals := 27 } : Room).cells ({ frames := 2, cells := 0, slots := 0, locals := 27 } : Room).slots) (s₁.setTop (entryFrame m #[(.ref o0), (.int (8 : Int32))] 2))
  rw [(by first | (simp [entryFrame, mkF, argsToLocals, Value.category]; done) | rfl : entryFrame m #[(.ref o0), (.int (8 : Int32))] 2 = mkF m 0 #[.val (.ref o0), .val (.int (8 : Int32))] [])]
  show own_Go p e below _ (s₁.setTop (mkF m 0 #[.val (.ref o0), .val (.int (8 : Int32))] []))
  refine own_go (fun _ hr => XS.iloadN X0.here hx rfl (hb hby own_d_jdk_43_method_2_code_0) rfl (XS.aloadN X0.here hx rfl (hb hby own_d_jdk_43_method_2_code_1) rfl rfl (own_alen X0 hx hZ e0 P0 rfl rfl (hb hby own_d_jdk_43_method_2_code_2) hr))) ?_
  show own_Go p e below _ (s₁.setTop (mkF m 3 #[.val (.ref o0), .val (.int (8 : Int32))] [(.int (10 : Int32)), (.int (8 : Int32))]))
  refine own_cs X0 hx hZ hown (hw _ (own_m 47 rfl)) (hw _ (own_m 48 rfl)) (hw _ (own_m 21 rfl)) (hw _ (own_m 49 rfl)) (by decide) (rm := { frames := 1, cells := 0, slots := 0, locals := 14 }) (rm_checkIndex_42 l Z a0 hw [] vv0 h0 n0 Z0 P1 hvv0) (by decide) (W := 0) (by decide) (by decide) (by decide) e0 (by rw [hml]; rfl) (argsL := [(.int (8 : Int32)), (.int (10 : Int32))]) (lenOf own_pd6 rfl) (rest := []) rfl rfl (Nat.le_of_eq rfl) (hb hby own_d_jdk_43_method_2_code_3) ?_
  intro _ T1 L1 X1 hQ1
  obtain ⟨rfl, N1q, e1⟩ := hQ1
  have N1 := Fr.app N0 N1q
  show own_Go p e below _ (T1.setTop (mkF m 6 #[.val (.ref o0), .val (.int (8 : Int32))] []))
  refine own_go (fun _ hr => XS.aloadN X1.here hx rfl (hb hby own_d_jdk_43_method_2_code_6) rfl rfl (XS.iloadN X1.here hx rfl (hb hby own_d_jdk_43_method_2_code_7) rfl (own_baload X1 hx hZ e1 P0 (8 : Int32) (.int (101 : Int32)) ⟨by decide, by decide⟩ rfl rfl rfl (hb hby own_d_jdk_43_method_2_code_8) (XS.sipush X1.here hx rfl (hb hby own_d_jdk_43_method_2_code_9) (XS.iand X1.here hx rfl (hb hby own_d_jdk_43_method_2_code_12) rfl (XS.i2c X1.here hx rfl (hb hby own_d_jdk_43_method_2_code_13) rfl hr)))))) ?_
  show own_Go p e below _ (T1.setTop (mkF m 14 #[.val (.ref o0), .val (.int (8 : Int32))] [(.int (101 : Int32))]))
  exact own_retN X1 hx hlk Bd.returns (t := .char) (by simp) (hb hby own_d_jdk_43_method_2_code_14) (by decide) (by decide) ⟨rfl, N1, e1⟩
def Q_charAt_44 (Z : State) (h0 : Heap) (n0 : Nat) (v : Option Value) (h : Heap) (L : List Loc) : Prop := v = some (.int (101 : Int32)) ∧ Fr n0 L ∧ h = h0
set_option maxRecDepth 65536 in
set_option maxHeartbeats 40000000 in
theorem rm_charAt_44 (l : Launch) (Z : State) (a0 : Array Value) (hw : ∀ d ∈ tables_1, d.before a0 Z = true) (ws : List Jvm.Cond) (o0 : Addr) (y0 : Int32) (o1 : Addr) (kc0 : ClassId) (vv0 : Value) (h0 : Heap) (n0 : Nat) (Z0 : n0 ≤ h0.size) (P0 : Sta Z h0 "java/lang/String" "COMPACT_STRINGS" "Z" (.int y0)) (P1 : Fld Z h0 o0 "java/lang/String" "coder" "B" (.int (0 : Int32))) (P2 : Exa Z h0 o0 "java/lang/String") (P3 : Fld Z h0 o0 "java/lang/String" "value" "[B" (.ref o1)) (P4 : Arv Z h0 o1 kc0 .byte (10 : Int32) [(.int (99 : Int32)), (.int (104 : Int32)), (.int (97 : Int32)), (.int (114 : Int32)), (.int (103 : Int32)), (.int (101 : Int32)), (.int (95 : Int32)), (.int (121 : Int32)), (.int (101 : Int32)), (.int (110 : Int32))] (.int (0 : Int32))) (P5 : Sta Z h0 "jdk/internal/util/Preconditions" "SIOOBE_FORMATTER" "Ljava/util/function/BiFunction;" vv0) (hvv0 : vv0.isRef = true) (hb0 : ¬ (y0 = (0 : Int32))) :
    MetFree l (⟨"java/lang/String", "charAt", "(I)C"⟩ : MethodName) (head1 (Jvm.Cond.code (⟨"java/lang/String", "charAt", "(I)C"⟩ : MethodName) jdk_42_method_56_code 2 (some .char) :: ws) ({ frames := 3, cells := 0, slots := 0, locals := 40 } : Room)) (fun aA U => aA = #[(.ref o0), (.int (8 : Int32))] ∧ Z.Warmed39 U.vm ∧ U.heap = h0) (fun _ _ _ _ _ => True) (fun _ U o U' => ∃ v L, o = .returned v ∧ Q_charAt_44 Z h0 n0 v U'.heap L ∧ FrameEnd U o U' L ({ frames := 3, cells := 0, slots := 0, locals := 40 } : Room).cells ({ frames := 3, cells := 0, slots := 0, locals := 40 } : Room).slots) := by
  refine MetFree.of_bodySF (plainFor_of_name own_pn_java_lang_String) hisR ?_
  intro p e s m args below meth c s₁ Bd hml0 hP hK
  obtain ⟨rfl, hZ, hh⟩ := hP
  have hx := Bd.exec
  have hby := Bd.bytes
  have hlk : meth.locks = false := BodyLoose.notSynchronized Bd
  have hml : c.maxLocals = 2 := hml0
  have hown : s.vm.findClass "java/lang/String" = some m.cls := findClass_of_methodNamed Bd.named
  have hnm := (name_of_methodNamed Bd.named Bd.method).1
  have X0 : Stand p l e ({ frames := 3, cells := 0, slots := 0, locals := 40 } : Room) s m #[(.ref o0), (.int (8 : Int32))] below meth c s₁ [] 0 0 := Stand.of_body Bd
  have e0 : s₁.heap = h0 := by rw [← hh, Bd.state]; rfl
  have N0 := Fr.nil n0
  show own_Go p e below (own_K s (Q_charAt_44 Z h0 n0) ({ frames := 3, cells := 0, slots := 0, locals := 40 } : Room).cells ({ frames := 3, cells := 0, slots := 0, locals := 40 } : Room).slots) (s₁.setTop (entryFrame m #[(.ref o0), (.int (8 : Int32))] 2))
  rw [(by first | (simp [entryFrame, mkF, argsToLocals, Value.category]; done) | rfl : entryFrame m #[(.ref o0), (.int (8 : Int32))] 2 = mkF m 0 #[.val (.ref o0), .val (.int (8 : Int32))] [])]
  show own_Go p e below _ (s₁.setTop (mkF m 0 #[.val (.ref o0), .val (.int (8 : Int32))] []))
  refine own_go (fun _ hr => XS.aloadN X0.here hx rfl (hb hby own_d_jdk_42_method_56_code_0) rfl rfl hr) ?_
  show own_Go p e below _ (s₁.setTop (mkF m 1 #[.val (.ref o0), .val (.int (8 : Int32))] [(.ref o0)]))
  refine own_cv X0 hx hZ hown (notFace_of_selects (args := #[]) (mvT hZ (hw _ (own_m 41 rfl)))) (hw _ (own_m 38 rfl)) (hw _ (own_m 39 rfl)) (hw _ (own_m 41 rfl)) (hw _ (own_m 40 rfl)) (hw _ (own_m 21 rfl)) (hw _ (own_m 42 rfl)) (by decide) P2 (rm := { frames := 0, cells := 0, slots := 0, locals := 0 }) (rm_isLatin1_4 l Z a0 hw [] o0 y0 h0 n0 Z0 P0 P1 hb0) (by decide) (W := 0) (by decide) (by decide) (by decide) e0 (by rw [hml]; rfl) (argsL := []) (lenOf own_pd4 rfl) (rest := []) rfl rfl (Nat.le_of_eq rfl) (hb hby own_d_jdk_42_method_56_code_1) ?_
  intro _ T1 L1 X1 hQ1
  obtain ⟨rfl, N1q, e1⟩ := hQ1
  have N1 := Fr.app N0 N1q
  show own_Go p e below _ (T1.setTop (mkF m 4 #[.val (.ref o0), .val (.int (8 : Int32))] [(.int (1 : Int32))]))
  refine own_go (fun _ hr => XS.ifNo X1.here hx rfl (hb hby own_d_jdk_42_method_56_code_4) rfl ((if0 _ _).trans (feq (by decide)).1) (XS.aloadN X1.here hx rfl (hb hby own_d_jdk_42_method_56_code_7) rfl rfl hr)) ?_
  show own_Go p e below _ (T1.setTop (mkF m 8 #[.val (.ref o0), .val (.int (8 : Int32))] [(.ref o0)]))
  obtain ⟨T2, X2, e2, st2⟩ := getF X1 hx hZ hown (host := "") (Or.inl (hw _ (own_m 23 rfl))) Via.refl e1 P3 (g := (mkF m 8 #[.val (.ref o0), .val (.int (8 : Int32))] [(.ref o0)])) rfl rfl (hb hby own_d_jdk_42_method_56_code_8)
  refine own_go st2 ?_
  show own_Go p e below _ (T2.setTop (mkF m 11 #[.val (.ref o0), .val (.int (8 : Int32))] [(.ref o1)]))
  refine own_go (fun _ hr => XS.iloadN X2.here hx rfl (hb hby own_d_jdk_42_method_56_code_11) rfl hr) ?_
  show own_Go p e below _ (T2.setTop (mkF m 12 #[.val (.ref o0), .val (.int (8 : Int32))] [(.int (8 : Int32)), (.ref o1)]))
  refine own_cs X2 hx hZ hown (hw _ (own_m 43 rfl)) (hw _ (own_m 44 rfl)) (hw _ (own_m 45 rfl)) (hw _ (own_m 46 rfl)) (by decide) (rm := { frames := 2, cells := 0, slots := 0, locals := 27 }) (rm_charAt_43 l Z a0 hw [] o1 kc0 vv0 h0 n0 Z0 P4 P5 hvv0) (by decide) (W := 0) (by decide) (by decide) (by decide) e2 (by rw [hml]; rfl) (argsL := [(.ref o1), (.int (8 : Int32))]) (lenOf own_pd7 rfl) (rest := []) rfl rfl (Nat.le_of_eq rfl) (hb hby own_d_jdk_42_method_56_code_12) ?_
  intro _ T3 L3 X3 hQ3
  obtain ⟨rfl, N3q, e3⟩ := hQ3
  have N3 := Fr.app N1 N3q
  show own_Go p e below _ (T3.setTop (mkF m 15 #[.val (.ref o0), .val (.int (8 : Int32))] [(.int (101 : Int32))]))
  exact own_retN X3 hx hlk Bd.returns (t := .char) (by simp) (hb hby own_d_jdk_42_method_56_code_15) (by decide) (by decide) ⟨rfl, N3, e3⟩
def Q_checkIndex_45 (Z : State) (h0 : Heap) (n0 : Nat) (v : Option Value) (h : Heap) (L : List Loc) : Prop := v = some (.int (9 : Int32)) ∧ Fr n0 L ∧ h = h0
set_option maxRecDepth 65536 in
set_option maxHeartbeats 40000000 in
theorem rm_checkIndex_45 (l : Launch) (Z : State) (a0 : Array Value) (hw : ∀ d ∈ tables_1, d.before a0 Z = true) (ws : List Jvm.Cond) (vv0 : Value) (h0 : Heap) (n0 : Nat) (Z0 : n0 ≤ h0.size) (hvv0 : vv0.isRef = true) :
    MetFree l (⟨"jdk/internal/util/Preconditions", "checkIndex", "(IILjava/util/function/BiFunction;)I"⟩ : MethodName) (head1 (Jvm.Cond.code (⟨"jdk/internal/util/Preconditions", "checkIndex", "(IILjava/util/function/BiFunction;)I"⟩ : MethodName) jdk_41_method_11_code 3 (some .int) :: ws) ({ frames := 0, cells := 0, slots := 0, locals := 0 } : Room)) (fun aA U => aA = #[(.int (9 : Int32)), (.int (10 : Int32)), vv0] ∧ Z.Warmed39 U.vm ∧ U.heap = h0) (fun _ _ _ _ _ => True) (fun _ U o U' => ∃ v L, o = .returned v ∧ Q_checkIndex_45 Z h0 n0 v U'.heap L ∧ FrameEnd U o U' L ({ frames := 0, cells := 0, slots := 0, locals := 0 } : Room).cells ({ frames := 0, cells := 0, slots := 0, locals := 0 } : Room).slots) := by
  refine MetFree.of_bodySF (plainFor_of_name own_pn_jdk_internal_util_Preconditions) hisR ?_
  intro p e s m args below meth c s₁ Bd hml0 hP hK
  obtain ⟨rfl, hZ, hh⟩ := hP
  have hx := Bd.exec
  have hby := Bd.bytes
  have hlk : meth.locks = false := BodyLoose.notSynchronized Bd
  have hml : c.maxLocals = 3 := hml0
  have hown : s.vm.findClass "jdk/internal/util/Preconditions" = some m.cls := findClass_of_methodNamed Bd.named
  have hnm := (name_of_methodNamed Bd.named Bd.method).1
  have X0 : Stand p l e ({ frames := 0, cells := 0, slots := 0, locals := 0 } : Room) s m #[(.int (9 : Int32)), (.int (10 : Int32)), vv0] below meth c s₁ [] 0 0 := Stand.of_body Bd
  have e0 : s₁.heap = h0 := by rw [← hh, Bd.state]; rfl
  have N0 := Fr.nil n0
  show own_Go p e below (own_K s (Q_checkIndex_45 Z h0 n0) ({ frames := 0, cells := 0, slots := 0, locals := 0 } : Room).cells ({ frames := 0, cells := 0, slots := 0, locals := 0 } : Room).slots) (s₁.setTop (entryFrame m #[(.int (9 : Int32)), (.int (10 : Int32)), vv0] 3))
  rw [(by first | (simp [entryFrame, mkF, argsToLocals, Value.category]; done) | (have q := hvv0; revert q; cases vv0 <;> simp [entryFrame, mkF, argsToLocals, Value.category, Value.isRef]) | rfl : entryFrame m #[(.int (9 : Int32)), (.int (10 : Int32)), vv0] 3 = mkF m 0 #[.val (.int (9 : Int32)), .val (.int (10 : Int32)), .val vv0] [])]
  show own_Go p e below _ (s₁.setTop (mkF m 0 #[.val (.int (9 : Int32)), .val (.int (10 : Int32)), .val vv0] []))
  refine own_go (fun _ hr => XS.iloadN X0.here hx rfl (hb hby own_d_jdk_41_method_11_code_0) rfl (XS.ifNo X0.here hx rfl (hb hby own_d_jdk_41_method_11_code_1) rfl ((if0 _ _).trans (flt (by decide)).1) (XS.iloadN X0.here hx rfl (hb hby own_d_jdk_41_method_11_code_4) rfl (XS.iloadN X0.here hx rfl (hb hby own_d_jdk_41_method_11_code_5) rfl (XS.icmpYes X0.here hx rfl (pc0 := 6) (pc' := 16) rfl (hb hby own_d_jdk_41_method_11_code_6) rfl (tlt (by decide)).1 (by decide) (by decide) (XS.iloadN X0.here hx rfl (hb hby own_d_jdk_41_method_11_code_16) rfl hr)))))) ?_
  show own_Go p e below _ (s₁.setTop (mkF m 17 #[.val (.int (9 : Int32)), .val (.int (10 : Int32)), .val vv0] [(.int (9 : Int32))]))
  exact own_retI X0 hx hlk Bd.returns (hb hby own_d_jdk_41_method_11_code_17) (by decide) (by decide) ⟨rfl, N0, e0⟩
def Q_checkIndex_46 (Z : State) (h0 : Heap) (n0 : Nat) (v : Option Value) (h : Heap) (L : List Loc) : Prop := v = none ∧ Fr n0 L ∧ h = h0
set_option maxRecDepth 65536 in
set_option maxHeartbeats 40000000 in
theorem rm_checkIndex_46 (l : Launch) (Z : State) (a0 : Array Value) (hw : ∀ d ∈ tables_1, d.before a0 Z = true) (ws : List Jvm.Cond) (vv0 : Value) (h0 : Heap) (n0 : Nat) (Z0 : n0 ≤ h0.size) (P0 : Sta Z h0 "jdk/internal/util/Preconditions" "SIOOBE_FORMATTER" "Ljava/util/function/BiFunction;" vv0) (hvv0 : vv0.isRef = true) :
    MetFree l (⟨"java/lang/String", "checkIndex", "(II)V"⟩ : MethodName) (head1 (Jvm.Cond.code (⟨"java/lang/String", "checkIndex", "(II)V"⟩ : MethodName) jdk_42_method_155_code 2 none :: ws) ({ frames := 1, cells := 0, slots := 0, locals := 14 } : Room)) (fun aA U => aA = #[(.int (9 : Int32)), (.int (10 : Int32))] ∧ Z.Warmed39 U.vm ∧ U.heap = h0) (fun _ _ _ _ _ => True) (fun _ U o U' => ∃ v L, o = .returned v ∧ Q_checkIndex_46 Z h0 n0 v U'.heap L ∧ FrameEnd U o U' L ({ frames := 1, cells := 0, slots := 0, locals := 14 } : Room).cells ({ frames := 1, cells := 0, slots := 0, locals := 14 } : Room).slots) := by
  refine MetFree.of_bodySF (plainFor_of_name own_pn_java_lang_String) hisR ?_
  intro p e s m args below meth c s₁ Bd hml0 hP hK
  obtain ⟨rfl, hZ, hh⟩ := hP
  have hx := Bd.exec
  have hby := Bd.bytes
  have hlk : meth.locks = false := BodyLoose.notSynchronized Bd
  have hml : c.maxLocals = 2 := hml0
  have hown : s.vm.findClass "java/lang/String" = some m.cls := findClass_of_methodNamed Bd.named
  have hnm := (name_of_methodNamed Bd.named Bd.method).1
  have X0 : Stand p l e ({ frames := 1, cells := 0, slots := 0, locals := 14 } : Room) s m #[(.int (9 : Int32)), (.int (10 : Int32))] below meth c s₁ [] 0 0 := Stand.of_body Bd
  have e0 : s₁.heap = h0 := by rw [← hh, Bd.state]; rfl
  have N0 := Fr.nil n0
  show own_Go p e below (own_K s (Q_checkIndex_46 Z h0 n0) ({ frames := 1, cells := 0, slots := 0, locals := 14 } : Room).cells ({ frames := 1, cells := 0, slots := 0, locals := 14 } : Room).slots) (s₁.setTop (entryFrame m #[(.int (9 : Int32)), (.int (10 : Int32))] 2))
  rw [(by first | (simp [entryFrame, mkF, argsToLocals, Value.category]; done) | rfl : entryFrame m #[(.int (9 : Int32)), (.int (10 : Int32))] 2 = mkF m 0 #[.val (.int (9 : Int32)), .val (.int (10 : Int32))] [])]
  show own_Go p e below _ (s₁.setTop (mkF m 0 #[.val (.int (9 : Int32)), .val (.int (10 : Int32))] []))
  refine own_go (fun _ hr => XS.iloadN X0.here hx rfl (hb hby own_d_jdk_42_method_155_code_0) rfl (XS.iloadN X0.here hx rfl (hb hby own_d_jdk_42_method_155_code_1) rfl hr)) ?_
  show own_Go p e below _ (s₁.setTop (mkF m 2 #[.val (.int (9 : Int32)), .val (.int (10 : Int32))] [(.int (10 : Int32)), (.int (9 : Int32))]))
  obtain ⟨T1, X1, e1, st1⟩ := getS2 X0 hx hZ hown (host := "") (Or.inl (hw _ (own_m 50 rfl))) Via.refl e0 P0 (g := (mkF m 2 #[.val (.int (9 : Int32)), .val (.int (10 : Int32))] [(.int (10 : Int32)), (.int (9 : Int32))])) rfl (hb hby own_d_jdk_42_method_155_code_2)
  refine own_go st1 ?_
  show own_Go p e below _ (T1.setTop (mkF m 5 #[.val (.int (9 : Int32)), .val (.int (10 : Int32))] [vv0, (.int (10 : Int32)), (.int (9 : Int32))]))
  refine own_cs X1 hx hZ hown (hw _ (own_m 52 rfl)) (hw _ (own_m 53 rfl)) (hw _ (own_m 51 rfl)) (hw _ (own_m 54 rfl)) (by decide) (rm := { frames := 0, cells := 0, slots := 0, locals := 0 }) (rm_checkIndex_45 l Z a0 hw [] vv0 h0 n0 Z0 hvv0) (by decide) (W := 0) (by decide) (by decide) (by decide) e1 (by rw [hml]; rfl) (argsL := [(.int (9 : Int32)), (.int (10 : Int32)), vv0]) (lenOf own_pd5 rfl) (rest := []) rfl rfl (Nat.le_of_eq rfl) (hb hby own_d_jdk_42_method_155_code_5) ?_
  intro _ T2 L2 X2 hQ2
  obtain ⟨rfl, N2q, e2⟩ := hQ2
  have N2 := Fr.app N0 N2q
  show own_Go p e below _ (T2.setTop (mkF m 8 #[.val (.int (9 : Int32)), .val (.int (10 : Int32))] [(.int (9 : Int32))]))
  refine own_go (fun _ hr => XS.pop X2.here hx rfl (hb hby own_d_jdk_42_method_155_code_8) rfl rfl hr) ?_
  show own_Go p e below _ (T2.setTop (mkF m 9 #[.val (.int (9 : Int32)), .val (.int (10 : Int32))] []))
  exact own_ret0 X2 hx hlk Bd.returns (hb hby own_d_jdk_42_method_155_code_9) (by decide) (by decide) ⟨rfl, N2, e2⟩
def Q_charAt_47 (Z : State) (h0 : Heap) (n0 : Nat) (v : Option Value) (h : Heap) (L : List Loc) : Prop := v = some (.int (110 : Int32)) ∧ Fr n0 L ∧ h = h0
set_option maxRecDepth 65536 in
set_option maxHeartbeats 40000000 in
theorem rm_charAt_47 (l : Launch) (Z : State) (a0 : Array Value) (hw : ∀ d ∈ tables_1, d.before a0 Z = true) (ws : List Jvm.Cond) (o0 : Addr) (kc0 : ClassId) (vv0 : Value) (h0 : Heap) (n0 : Nat) (Z0 : n0 ≤ h0.size) (P0 : Arv Z h0 o0 kc0 .byte (10 : Int32) [(.int (99 : Int32)), (.int (104 : Int32)), (.int (97 : Int32)), (.int (114 : Int32)), (.int (103 : Int32)), (.int (101 : Int32)), (.int (95 : Int32)), (.int (121 : Int32)), (.int (101 : Int32)), (.int (110 : Int32))] (.int (0 : Int32))) (P1 : Sta Z h0 "jdk/internal/util/Preconditions" "SIOOBE_FORMATTER" "Ljava/util/function/BiFunction;" vv0) (hvv0 : vv0.isRef = true) :
    MetFree l (⟨"java/lang/StringLatin1", "charAt", "([BI)C"⟩ : MethodName) (head1 (Jvm.Cond.code (⟨"java/lang/StringLatin1", "charAt", "([BI)C"⟩ : MethodName) jdk_43_method_2_code 2 (some .char) :: ws) ({ frames := 2, cells := 0, slots := 0, locals := 27 } : Room)) (fun aA U => aA = #[(.ref o0), (.int (9 : Int32))] ∧ Z.Warmed39 U.vm ∧ U.heap = h0) (fun _ _ _ _ _ => True) (fun _ U o U' => ∃ v L, o = .returned v ∧ Q_charAt_47 Z h0 n0 v U'.heap L ∧ FrameEnd U o U' L ({ frames := 2, cells := 0, slots := 0, locals := 27 } : Room).cells ({ frames := 2, cells := 0, slots := 0, locals := 27 } : Room).slots) := by
  refine MetFree.of_bodySF (plainFor_of_name own_pn_java_lang_StringLatin1) hisR ?_
  intro p e s m args below meth c s₁ Bd hml0 hP hK
  obtain ⟨rfl, hZ, hh⟩ := hP
  have hx := Bd.exec
  have hby := Bd.bytes
  have hlk : meth.locks = false := BodyLoose.notSynchronized Bd
  have hml : c.maxLocals = 2 := hml0
  have hown : s.vm.findClass "java/lang/StringLatin1" = some m.cls := findClass_of_methodNamed Bd.named
  have hnm := (name_of_methodNamed Bd.named Bd.method).1
  have X0 : Stand p l e ({ frames := 2, cells := 0, slots := 0, locals := 27 } : Room) s m #[(.ref o0), (.int (9 : Int32))] below meth c s₁ [] 0 0 := Stand.of_body Bd
  have e0 : s₁.heap = h0 := by rw [← hh, Bd.state]; rfl
  have N0 := Fr.nil n0
  show own_Go p e below (own_K s (Q_charAt_47 Z h0 n0) ({ frames := 2, cells := 0, slots := 0, locals := 27 } : Room).cells ({ frames := 2, cells := 0, slots := 0, locals := 27 } : Room).slots) (s₁.setTop (entryFrame m #[(.ref o0), (.int (9 : Int32))] 2))
  rw [(by first | (simp [entryFrame, mkF, argsToLocals, Value.category]; done) | rfl : entryFrame m #[(.ref o0), (.int (9 : Int32))] 2 = mkF m 0 #[.val (.ref o0), .val (.int (9 : Int32))] [])]
  show own_Go p e below _ (s₁.setTop (mkF m 0 #[.val (.ref o0), .val (.int (9 : Int32))] []))
  refine own_go (fun _ hr => XS.iloadN X0.here hx rfl (hb hby own_d_jdk_43_method_2_code_0) rfl (XS.aloadN X0.here hx rfl (hb hby own_d_jdk_43_method_2_code_1) rfl rfl (own_alen X0 hx hZ e0 P0 rfl rfl (hb hby own_d_jdk_43_method_2_code_2) hr))) ?_
  show own_Go p e below _ (s₁.setTop (mkF m 3 #[.val (.ref o0), .val (.int (9 : Int32))] [(.int (10 : Int32)), (.int (9 : Int32))]))
  refine own_cs X0 hx hZ hown (hw _ (own_m 47 rfl)) (hw _ (own_m 48 rfl)) (hw _ (own_m 21 rfl)) (hw _ (own_m 49 rfl)) (by decide) (rm := { frames := 1, cells := 0, slots := 0, locals := 14 }) (rm_checkIndex_46 l Z a0 hw [] vv0 h0 n0 Z0 P1 hvv0) (by decide) (W := 0) (by decide) (by decide) (by decide) e0 (by rw [hml]; rfl) (argsL := [(.int (9 : Int32)), (.int (10 : Int32))]) (lenOf own_pd6 rfl) (rest := []) rfl rfl (Nat.le_of_eq rfl) (hb hby own_d_jdk_43_method_2_code_3) ?_
  intro _ T1 L1 X1 hQ1
  obtain ⟨rfl, N1q, e1⟩ := hQ1
  have N1 := Fr.app N0 N1q
  show own_Go p e below _ (T1.setTop (mkF m 6 #[.val (.ref o0), .val (.int (9 : Int32))] []))
  refine own_go (fun _ hr => XS.aloadN X1.here hx rfl (hb hby own_d_jdk_43_method_2_code_6) rfl rfl (XS.iloadN X1.here hx rfl (hb hby own_d_jdk_43_method_2_code_7) rfl (own_baload X1 hx hZ e1 P0 (9 : Int32) (.int (110 : Int32)) ⟨by decide, by decide⟩ rfl rfl rfl (hb hby own_d_jdk_43_method_2_code_8) (XS.sipush X1.here hx rfl (hb hby own_d_jdk_43_method_2_code_9) (XS.iand X1.here hx rfl (hb hby own_d_jdk_43_method_2_code_12) rfl (XS.i2c X1.here hx rfl (hb hby own_d_jdk_43_method_2_code_13) rfl hr)))))) ?_
  show own_Go p e below _ (T1.setTop (mkF m 14 #[.val (.ref o0), .val (.int (9 : Int32))] [(.int (110 : Int32))]))
  exact own_retN X1 hx hlk Bd.returns (t := .char) (by simp) (hb hby own_d_jdk_43_method_2_code_14) (by decide) (by decide) ⟨rfl, N1, e1⟩
def Q_charAt_48 (Z : State) (h0 : Heap) (n0 : Nat) (v : Option Value) (h : Heap) (L : List Loc) : Prop := v = some (.int (110 : Int32)) ∧ Fr n0 L ∧ h = h0
set_option maxRecDepth 65536 in
set_option maxHeartbeats 40000000 in
theorem rm_charAt_48 (l : Launch) (Z : State) (a0 : Array Value) (hw : ∀ d ∈ tables_1, d.before a0 Z = true) (ws : List Jvm.Cond) (o0 : Addr) (y0 : Int32) (o1 : Addr) (kc0 : ClassId) (vv0 : Value) (h0 : Heap) (n0 : Nat) (Z0 : n0 ≤ h0.size) (P0 : Sta Z h0 "java/lang/String" "COMPACT_STRINGS" "Z" (.int y0)) (P1 : Fld Z h0 o0 "java/lang/String" "coder" "B" (.int (0 : Int32))) (P2 : Exa Z h0 o0 "java/lang/String") (P3 : Fld Z h0 o0 "java/lang/String" "value" "[B" (.ref o1)) (P4 : Arv Z h0 o1 kc0 .byte (10 : Int32) [(.int (99 : Int32)), (.int (104 : Int32)), (.int (97 : Int32)), (.int (114 : Int32)), (.int (103 : Int32)), (.int (101 : Int32)), (.int (95 : Int32)), (.int (121 : Int32)), (.int (101 : Int32)), (.int (110 : Int32))] (.int (0 : Int32))) (P5 : Sta Z h0 "jdk/internal/util/Preconditions" "SIOOBE_FORMATTER" "Ljava/util/function/BiFunction;" vv0) (hvv0 : vv0.isRef = true) (hb0 : ¬ (y0 = (0 : Int32))) :
    MetFree l (⟨"java/lang/String", "charAt", "(I)C"⟩ : MethodName) (head1 (Jvm.Cond.code (⟨"java/lang/String", "charAt", "(I)C"⟩ : MethodName) jdk_42_method_56_code 2 (some .char) :: ws) ({ frames := 3, cells := 0, slots := 0, locals := 40 } : Room)) (fun aA U => aA = #[(.ref o0), (.int (9 : Int32))] ∧ Z.Warmed39 U.vm ∧ U.heap = h0) (fun _ _ _ _ _ => True) (fun _ U o U' => ∃ v L, o = .returned v ∧ Q_charAt_48 Z h0 n0 v U'.heap L ∧ FrameEnd U o U' L ({ frames := 3, cells := 0, slots := 0, locals := 40 } : Room).cells ({ frames := 3, cells := 0, slots := 0, locals := 40 } : Room).slots) := by
  refine MetFree.of_bodySF (plainFor_of_name own_pn_java_lang_String) hisR ?_
  intro p e s m args below meth c s₁ Bd hml0 hP hK
  obtain ⟨rfl, hZ, hh⟩ := hP
  have hx := Bd.exec
  have hby := Bd.bytes
  have hlk : meth.locks = false := BodyLoose.notSynchronized Bd
  have hml : c.maxLocals = 2 := hml0
  have hown : s.vm.findClass "java/lang/String" = some m.cls := findClass_of_methodNamed Bd.named
  have hnm := (name_of_methodNamed Bd.named Bd.method).1
  have X0 : Stand p l e ({ frames := 3, cells := 0, slots := 0, locals := 40 } : Room) s m #[(.ref o0), (.int (9 : Int32))] below meth c s₁ [] 0 0 := Stand.of_body Bd
  have e0 : s₁.heap = h0 := by rw [← hh, Bd.state]; rfl
  have N0 := Fr.nil n0
  show own_Go p e below (own_K s (Q_charAt_48 Z h0 n0) ({ frames := 3, cells := 0, slots := 0, locals := 40 } : Room).cells ({ frames := 3, cells := 0, slots := 0, locals := 40 } : Room).slots) (s₁.setTop (entryFrame m #[(.ref o0), (.int (9 : Int32))] 2))
  rw [(by first | (simp [entryFrame, mkF, argsToLocals, Value.category]; done) | rfl : entryFrame m #[(.ref o0), (.int (9 : Int32))] 2 = mkF m 0 #[.val (.ref o0), .val (.int (9 : Int32))] [])]
  show own_Go p e below _ (s₁.setTop (mkF m 0 #[.val (.ref o0), .val (.int (9 : Int32))] []))
  refine own_go (fun _ hr => XS.aloadN X0.here hx rfl (hb hby own_d_jdk_42_method_56_code_0) rfl rfl hr) ?_
  show own_Go p e below _ (s₁.setTop (mkF m 1 #[.val (.ref o0), .val (.int (9 : Int32))] [(.ref o0)]))
  refine own_cv X0 hx hZ hown (notFace_of_selects (args := #[]) (mvT hZ (hw _ (own_m 41 rfl)))) (hw _ (own_m 38 rfl)) (hw _ (own_m 39 rfl)) (hw _ (own_m 41 rfl)) (hw _ (own_m 40 rfl)) (hw _ (own_m 21 rfl)) (hw _ (own_m 42 rfl)) (by decide) P2 (rm := { frames := 0, cells := 0, slots := 0, locals := 0 }) (rm_isLatin1_4 l Z a0 hw [] o0 y0 h0 n0 Z0 P0 P1 hb0) (by decide) (W := 0) (by decide) (by decide) (by decide) e0 (by rw [hml]; rfl) (argsL := []) (lenOf own_pd4 rfl) (rest := []) rfl rfl (Nat.le_of_eq rfl) (hb hby own_d_jdk_42_method_56_code_1) ?_
  intro _ T1 L1 X1 hQ1
  obtain ⟨rfl, N1q, e1⟩ := hQ1
  have N1 := Fr.app N0 N1q
  show own_Go p e below _ (T1.setTop (mkF m 4 #[.val (.ref o0), .val (.int (9 : Int32))] [(.int (1 : Int32))]))
  refine own_go (fun _ hr => XS.ifNo X1.here hx rfl (hb hby own_d_jdk_42_method_56_code_4) rfl ((if0 _ _).trans (feq (by decide)).1) (XS.aloadN X1.here hx rfl (hb hby own_d_jdk_42_method_56_code_7) rfl rfl hr)) ?_
  show own_Go p e below _ (T1.setTop (mkF m 8 #[.val (.ref o0), .val (.int (9 : Int32))] [(.ref o0)]))
  obtain ⟨T2, X2, e2, st2⟩ := getF X1 hx hZ hown (host := "") (Or.inl (hw _ (own_m 23 rfl))) Via.refl e1 P3 (g := (mkF m 8 #[.val (.ref o0), .val (.int (9 : Int32))] [(.ref o0)])) rfl rfl (hb hby own_d_jdk_42_method_56_code_8)
  refine own_go st2 ?_
  show own_Go p e below _ (T2.setTop (mkF m 11 #[.val (.ref o0), .val (.int (9 : Int32))] [(.ref o1)]))
  refine own_go (fun _ hr => XS.iloadN X2.here hx rfl (hb hby own_d_jdk_42_method_56_code_11) rfl hr) ?_
  show own_Go p e below _ (T2.setTop (mkF m 12 #[.val (.ref o0), .val (.int (9 : Int32))] [(.int (9 : Int32)), (.ref o1)]))
  refine own_cs X2 hx hZ hown (hw _ (own_m 43 rfl)) (hw _ (own_m 44 rfl)) (hw _ (own_m 45 rfl)) (hw _ (own_m 46 rfl)) (by decide) (rm := { frames := 2, cells := 0, slots := 0, locals := 27 }) (rm_charAt_47 l Z a0 hw [] o1 kc0 vv0 h0 n0 Z0 P4 P5 hvv0) (by decide) (W := 0) (by decide) (by decide) (by decide) e2 (by rw [hml]; rfl) (argsL := [(.ref o1), (.int (9 : Int32))]) (lenOf own_pd7 rfl) (rest := []) rfl rfl (Nat.le_of_eq rfl) (hb hby own_d_jdk_42_method_56_code_12) ?_
  intro _ T3 L3 X3 hQ3
  obtain ⟨rfl, N3q, e3⟩ := hQ3
  have N3 := Fr.app N1 N3q
  show own_Go p e below _ (T3.setTop (mkF m 15 #[.val (.ref o0), .val (.int (9 : Int32))] [(.int (110 : Int32))]))
  exact own_retN X3 hx hlk Bd.returns (t := .char) (by simp) (hb hby own_d_jdk_42_method_56_code_15) (by decide) (by decide) ⟨rfl, N3, e3⟩
def Q_endsInYen_49 (Z : State) (h0 : Heap) (n0 : Nat) (v : Option Value) (h : Heap) (L : List Loc) : Prop := v = some (.int (1 : Int32)) ∧ Fr n0 L ∧ h = h0
set_option maxRecDepth 65536 in
set_option maxHeartbeats 40000000 in
theorem rm_endsInYen_49 (l : Launch) (Z : State) (a0 : Array Value) (hw : ∀ d ∈ tables_1, d.before a0 Z = true) (ws : List Jvm.Cond) (o0 : Addr) (o1 : Addr) (kc0 : ClassId) (y0 : Int32) (vv0 : Value) (h0 : Heap) (n0 : Nat) (Z0 : n0 ≤ h0.size) (P0 : Fld Z h0 o0 "java/lang/String" "value" "[B" (.ref o1)) (P1 : Arv Z h0 o1 kc0 .byte (10 : Int32) [(.int (99 : Int32)), (.int (104 : Int32)), (.int (97 : Int32)), (.int (114 : Int32)), (.int (103 : Int32)), (.int (101 : Int32)), (.int (95 : Int32)), (.int (121 : Int32)), (.int (101 : Int32)), (.int (110 : Int32))] (.int (0 : Int32))) (P2 : Sta Z h0 "java/lang/String" "COMPACT_STRINGS" "Z" (.int y0)) (P3 : Fld Z h0 o0 "java/lang/String" "coder" "B" (.int (0 : Int32))) (P4 : Exa Z h0 o0 "java/lang/String") (P5 : Sta Z h0 "jdk/internal/util/Preconditions" "SIOOBE_FORMATTER" "Ljava/util/function/BiFunction;" vv0) (hvv0 : vv0.isRef = true) (hb0 : ¬ (y0 = (0 : Int32))) :
    MetFree l (⟨"com/example/strict_tariff/stricttariff/pricing/ColumnIsAmountPinLaw", "endsInYen", "(Ljava/lang/String;)Z"⟩ : MethodName) (head1 (Jvm.Cond.code (⟨"com/example/strict_tariff/stricttariff/pricing/ColumnIsAmountPinLaw", "endsInYen", "(Ljava/lang/String;)Z"⟩ : MethodName) method_3_code 2 (some .boolean) :: ws) ({ frames := 4, cells := 0, slots := 0, locals := 53 } : Room)) (fun aA U => aA = #[(.ref o0)] ∧ Z.Warmed39 U.vm ∧ U.heap = h0) (fun _ _ _ _ _ => True) (fun _ U o U' => ∃ v L, o = .returned v ∧ Q_endsInYen_49 Z h0 n0 v U'.heap L ∧ FrameEnd U o U' L ({ frames := 4, cells := 0, slots := 0, locals := 53 } : Room).cells ({ frames := 4, cells := 0, slots := 0, locals := 53 } : Room).slots) := by
  refine MetFree.of_bodySF (plainFor_of_name own_pn_com_example_strict_tariff_stricttariff_pricing_ColumnIsAmountPinLaw) hisR ?_
  intro p e s m args below meth c s₁ Bd hml0 hP hK
  obtain ⟨rfl, hZ, hh⟩ := hP
  have hx := Bd.exec
  have hby := Bd.bytes
  have hlk : meth.locks = false := BodyLoose.notSynchronized Bd
  have hml : c.maxLocals = 2 := hml0
  have hown : s.vm.findClass "com/example/strict_tariff/stricttariff/pricing/ColumnIsAmountPinLaw" = some m.cls := findClass_of_methodNamed Bd.named
  have hnm := (name_of_methodNamed Bd.named Bd.method).1
  have X0 : Stand p l e ({ frames := 4, cells := 0, slots := 0, locals := 53 } : Room) s m #[(.ref o0)] below meth c s₁ [] 0 0 := Stand.of_body Bd
  have e0 : s₁.heap = h0 := by rw [← hh, Bd.state]; rfl
  have N0 := Fr.nil n0
  show own_Go p e below (own_K s (Q_endsInYen_49 Z h0 n0) ({ frames := 4, cells := 0, slots := 0, locals := 53 } : Room).cells ({ frames := 4, cells := 0, slots := 0, locals := 53 } : Room).slots) (s₁.setTop (entryFrame m #[(.ref o0)] 2))
  rw [(by first | (simp [entryFrame, mkF, argsToLocals, Value.category]; done) | rfl : entryFrame m #[(.ref o0)] 2 = mkF m 0 #[.val (.ref o0), .unset] [])]
  show own_Go p e below _ (s₁.setTop (mkF m 0 #[.val (.ref o0), .unset] []))
  refine own_go (fun _ hr => XS.aloadN X0.here hx rfl (hb hby own_d_method_3_code_0) rfl rfl hr) ?_
  show own_Go p e below _ (s₁.setTop (mkF m 1 #[.val (.ref o0), .unset] [(.ref o0)]))
  refine own_cv X0 hx hZ hown (notFace_of_selects (args := #[]) (mvT hZ (hw _ (own_m 20 rfl)))) (hw _ (own_m 17 rfl)) (hw _ (own_m 18 rfl)) (hw _ (own_m 20 rfl)) (hw _ (own_m 19 rfl)) (hw _ (own_m 21 rfl)) (hw _ (own_m 22 rfl)) (by decide) P4 (rm := { frames := 1, cells := 0, slots := 0, locals := 13 }) (rm_length_32 l Z a0 hw [] o0 o1 kc0 y0 h0 n0 Z0 P0 P1 P2 P3 P4 hb0) (by decide) (W := 0) (by decide) (by decide) (by decide) e0 (by rw [hml]; rfl) (argsL := []) (lenOf own_pd3 rfl) (rest := []) rfl rfl (Nat.le_of_eq rfl) (hb hby own_d_method_3_code_1) ?_
  intro _ T1 L1 X1 hQ1
  obtain ⟨rfl, N1q, e1⟩ := hQ1
  have N1 := Fr.app N0 N1q
  show own_Go p e below _ (T1.setTop (mkF m 4 #[.val (.ref o0), .unset] [(.int (10 : Int32))]))
  refine own_go (fun _ hr => XS.istoreN X1.here hx rfl (hb hby own_d_method_3_code_4) rfl (l' := #[.val (.ref o0), .val (.int (10 : Int32))]) rfl (XS.iloadN X1.here hx rfl (hb hby own_d_method_3_code_5) rfl (XS.iconst X1.here hx rfl (hb hby own_d_method_3_code_6) (XS.icmpNo X1.here hx rfl (hb hby own_d_method_3_code_7) rfl (flt (by decide)).1 (XS.aloadN X1.here hx rfl (hb hby own_d_method_3_code_10) rfl rfl (XS.iloadN X1.here hx rfl (hb hby own_d_method_3_code_11) rfl (XS.iconst X1.here hx rfl (hb hby own_d_method_3_code_12) (XS.isub X1.here hx rfl (hb hby own_d_method_3_code_13) rfl hr)))))))) ?_
  show own_Go p e below _ (T1.setTop (mkF m 14 #[.val (.ref o0), .val (.int (10 : Int32))] [(.int (6 : Int32)), (.ref o0)]))
  refine own_cv X1 hx hZ hown (notFace_of_selects (args := #[]) (mvT hZ (hw _ (own_m 36 rfl)))) (hw _ (own_m 33 rfl)) (hw _ (own_m 34 rfl)) (hw _ (own_m 36 rfl)) (hw _ (own_m 35 rfl)) (hw _ (own_m 21 rfl)) (hw _ (own_m 37 rfl)) (by decide) P4 (rm := { frames := 3, cells := 0, slots := 0, locals := 40 }) (rm_charAt_36 l Z a0 hw [] o0 y0 o1 kc0 vv0 h0 n0 Z0 P2 P3 P4 P0 P1 P5 hvv0 hb0) (by decide) (W := 0) (by decide) (by decide) (by decide) e1 (by rw [hml]; rfl) (argsL := [(.int (6 : Int32))]) (lenOf own_pd8 rfl) (rest := []) rfl rfl (Nat.le_of_eq rfl) (hb hby own_d_method_3_code_14) ?_
  intro _ T2 L2 X2 hQ2
  obtain ⟨rfl, N2q, e2⟩ := hQ2
  have N2 := Fr.app N1 N2q
  show own_Go p e below _ (T2.setTop (mkF m 17 #[.val (.ref o0), .val (.int (10 : Int32))] [(.int (95 : Int32))]))
  refine own_go (fun _ hr => XS.bipush X2.here hx rfl (hb hby own_d_method_3_code_17) (XS.icmpNo X2.here hx rfl (hb hby own_d_method_3_code_19) rfl (teq (by decide)).2 (XS.aloadN X2.here hx rfl (hb hby own_d_method_3_code_22) rfl rfl (XS.iloadN X2.here hx rfl (hb hby own_d_method_3_code_23) rfl (XS.iconst X2.here hx rfl (hb hby own_d_method_3_code_24) (XS.isub X2.here hx rfl (hb hby own_d_method_3_code_25) rfl hr)))))) ?_
  show own_Go p e below _ (T2.setTop (mkF m 26 #[.val (.ref o0), .val (.int (10 : Int32))] [(.int (7 : Int32)), (.ref o0)]))
  refine own_cv X2 hx hZ hown (notFace_of_selects (args := #[]) (mvT hZ (hw _ (own_m 36 rfl)))) (hw _ (own_m 33 rfl)) (hw _ (own_m 34 rfl)) (hw _ (own_m 36 rfl)) (hw _ (own_m 35 rfl)) (hw _ (own_m 21 rfl)) (hw _ (own_m 37 rfl)) (by decide) P4 (rm := { frames := 3, cells := 0, slots := 0, locals := 40 }) (rm_charAt_40 l Z a0 hw [] o0 y0 o1 kc0 vv0 h0 n0 Z0 P2 P3 P4 P0 P1 P5 hvv0 hb0) (by decide) (W := 0) (by decide) (by decide) (by decide) e2 (by rw [hml]; rfl) (argsL := [(.int (7 : Int32))]) (lenOf own_pd8 rfl) (rest := []) rfl rfl (Nat.le_of_eq rfl) (hb hby own_d_method_3_code_26) ?_
  intro _ T3 L3 X3 hQ3
  obtain ⟨rfl, N3q, e3⟩ := hQ3
  have N3 := Fr.app N2 N3q
  show own_Go p e below _ (T3.setTop (mkF m 29 #[.val (.ref o0), .val (.int (10 : Int32))] [(.int (121 : Int32))]))
  refine own_go (fun _ hr => XS.bipush X3.here hx rfl (hb hby own_d_method_3_code_29) (XS.icmpNo X3.here hx rfl (hb hby own_d_method_3_code_31) rfl (teq (by decide)).2 (XS.aloadN X3.here hx rfl (hb hby own_d_method_3_code_34) rfl rfl (XS.iloadN X3.here hx rfl (hb hby own_d_method_3_code_35) rfl (XS.iconst X3.here hx rfl (hb hby own_d_method_3_code_36) (XS.isub X3.here hx rfl (hb hby own_d_method_3_code_37) rfl hr)))))) ?_
  show own_Go p e below _ (T3.setTop (mkF m 38 #[.val (.ref o0), .val (.int (10 : Int32))] [(.int (8 : Int32)), (.ref o0)]))
  refine own_cv X3 hx hZ hown (notFace_of_selects (args := #[]) (mvT hZ (hw _ (own_m 36 rfl)))) (hw _ (own_m 33 rfl)) (hw _ (own_m 34 rfl)) (hw _ (own_m 36 rfl)) (hw _ (own_m 35 rfl)) (hw _ (own_m 21 rfl)) (hw _ (own_m 37 rfl)) (by decide) P4 (rm := { frames := 3, cells := 0, slots := 0, locals := 40 }) (rm_charAt_44 l Z a0 hw [] o0 y0 o1 kc0 vv0 h0 n0 Z0 P2 P3 P4 P0 P1 P5 hvv0 hb0) (by decide) (W := 0) (by decide) (by decide) (by decide) e3 (by rw [hml]; rfl) (argsL := [(.int (8 : Int32))]) (lenOf own_pd8 rfl) (rest := []) rfl rfl (Nat.le_of_eq rfl) (hb hby own_d_method_3_code_38) ?_
  intro _ T4 L4 X4 hQ4
  obtain ⟨rfl, N4q, e4⟩ := hQ4
  have N4 := Fr.app N3 N4q
  show own_Go p e below _ (T4.setTop (mkF m 41 #[.val (.ref o0), .val (.int (10 : Int32))] [(.int (101 : Int32))]))
  refine own_go (fun _ hr => XS.bipush X4.here hx rfl (hb hby own_d_method_3_code_41) (XS.icmpNo X4.here hx rfl (hb hby own_d_method_3_code_43) rfl (teq (by decide)).2 (XS.aloadN X4.here hx rfl (hb hby own_d_method_3_code_46) rfl rfl (XS.iloadN X4.here hx rfl (hb hby own_d_method_3_code_47) rfl (XS.iconst X4.here hx rfl (hb hby own_d_method_3_code_48) (XS.isub X4.here hx rfl (hb hby own_d_method_3_code_49) rfl hr)))))) ?_
  show own_Go p e below _ (T4.setTop (mkF m 50 #[.val (.ref o0), .val (.int (10 : Int32))] [(.int (9 : Int32)), (.ref o0)]))
  refine own_cv X4 hx hZ hown (notFace_of_selects (args := #[]) (mvT hZ (hw _ (own_m 36 rfl)))) (hw _ (own_m 33 rfl)) (hw _ (own_m 34 rfl)) (hw _ (own_m 36 rfl)) (hw _ (own_m 35 rfl)) (hw _ (own_m 21 rfl)) (hw _ (own_m 37 rfl)) (by decide) P4 (rm := { frames := 3, cells := 0, slots := 0, locals := 40 }) (rm_charAt_48 l Z a0 hw [] o0 y0 o1 kc0 vv0 h0 n0 Z0 P2 P3 P4 P0 P1 P5 hvv0 hb0) (by decide) (W := 0) (by decide) (by decide) (by decide) e4 (by rw [hml]; rfl) (argsL := [(.int (9 : Int32))]) (lenOf own_pd8 rfl) (rest := []) rfl rfl (Nat.le_of_eq rfl) (hb hby own_d_method_3_code_50) ?_
  intro _ T5 L5 X5 hQ5
  obtain ⟨rfl, N5q, e5⟩ := hQ5
  have N5 := Fr.app N4 N5q
  show own_Go p e below _ (T5.setTop (mkF m 53 #[.val (.ref o0), .val (.int (10 : Int32))] [(.int (110 : Int32))]))
  refine own_go (fun _ hr => XS.bipush X5.here hx rfl (hb hby own_d_method_3_code_53) (XS.icmpNo X5.here hx rfl (hb hby own_d_method_3_code_55) rfl (teq (by decide)).2 (XS.iconst X5.here hx rfl (hb hby own_d_method_3_code_58) (XS.goto X5.here hx rfl (pc0 := 59) (pc' := 63) rfl (hb hby own_d_method_3_code_59) (by decide) (by decide) hr)))) ?_
  show own_Go p e below _ (T5.setTop (mkF m 63 #[.val (.ref o0), .val (.int (10 : Int32))] [(.int (1 : Int32))]))
  exact own_retN X5 hx hlk Bd.returns (t := .boolean) (by simp) (hb hby own_d_method_3_code_63) (by decide) (by decide) ⟨rfl, N5, e5⟩
theorem own_d_method_2_code_22 : decode method_2_code 22 = .ok (.getstatic 16, 3) := by decide +kernel
theorem own_d_method_2_code_25 : decode method_2_code 25 = .ok (.areturn, 1) := by decide +kernel
def Q_pick_50 (Z : State) (o0 : Addr) (h0 : Heap) (n0 : Nat) (v : Option Value) (h : Heap) (L : List Loc) : Prop := v = some (.ref o0) ∧ Fr n0 L ∧ h = h0
set_option maxRecDepth 65536 in
set_option maxHeartbeats 40000000 in
theorem rm_pick_50 (l : Launch) (Z : State) (a0 : Array Value) (hw : ∀ d ∈ tables_1, d.before a0 Z = true) (ws : List Jvm.Cond) (o0 : Addr) (h0 : Heap) (n0 : Nat) (Z0 : n0 ≤ h0.size) (P0 : Sta Z h0 "com/example/strict_tariff/stricttariff/pricing/Column" "TAX" "Lcom/example/strict_tariff/stricttariff/pricing/Column;" (.ref o0)) :
    MetFree l (⟨"com/example/strict_tariff/stricttariff/pricing/ColumnIsAmountPinLaw", "pick", "(I)Lcom/example/strict_tariff/stricttariff/pricing/Column;"⟩ : MethodName) (head1 (Jvm.Cond.code (⟨"com/example/strict_tariff/stricttariff/pricing/ColumnIsAmountPinLaw", "pick", "(I)Lcom/example/strict_tariff/stricttariff/pricing/Column;"⟩ : MethodName) method_2_code 1 (some (.object "com/example/strict_tariff/stricttariff/pricing/Column")) :: ws) ({ frames := 0, cells := 0, slots := 0, locals := 0 } : Room)) (fun aA U => aA = #[(.int (2 : Int32))] ∧ Z.Warmed39 U.vm ∧ U.heap = h0) (fun _ _ _ _ _ => True) (fun _ U o U' => ∃ v L, o = .returned v ∧ Q_pick_50 Z o0 h0 n0 v U'.heap L ∧ FrameEnd U o U' L ({ frames := 0, cells := 0, slots := 0, locals := 0 } : Room).cells ({ frames := 0, cells := 0, slots := 0, locals := 0 } : Room).slots) := by
  refine MetFree.of_bodySF (plainFor_of_name own_pn_com_example_strict_tariff_stricttariff_pricing_ColumnIsAmountPinLaw) hisR ?_
  intro p e s m args below meth c s₁ Bd hml0 hP hK
  obtain ⟨rfl, hZ, hh⟩ := hP
  have hx := Bd.exec
  have hby := Bd.bytes
  have hlk : meth.locks = false := BodyLoose.notSynchronized Bd
  have hml : c.maxLocals = 1 := hml0
  have hown : s.vm.findClass "com/example/strict_tariff/stricttariff/pricing/ColumnIsAmountPinLaw" = some m.cls := findClass_of_methodNamed Bd.named
  have hnm := (name_of_methodNamed Bd.named Bd.method).1
  have X0 : Stand p l e ({ frames := 0, cells := 0, slots := 0, locals := 0 } : Room) s m #[(.int (2 : Int32))] below meth c s₁ [] 0 0 := Stand.of_body Bd
  have e0 : s₁.heap = h0 := by rw [← hh, Bd.state]; rfl
  have N0 := Fr.nil n0
  show own_Go p e below (own_K s (Q_pick_50 Z o0 h0 n0) ({ frames := 0, cells := 0, slots := 0, locals := 0 } : Room).cells ({ frames := 0, cells := 0, slots := 0, locals := 0 } : Room).slots) (s₁.setTop (entryFrame m #[(.int (2 : Int32))] 1))
  rw [(by first | (simp [entryFrame, mkF, argsToLocals, Value.category]; done) | rfl : entryFrame m #[(.int (2 : Int32))] 1 = mkF m 0 #[.val (.int (2 : Int32))] [])]
  show own_Go p e below _ (s₁.setTop (mkF m 0 #[.val (.int (2 : Int32))] []))
  refine own_go (fun _ hr => XS.iloadN X0.here hx rfl (hb hby own_d_method_2_code_0) rfl (XS.ifYes X0.here hx rfl (pc0 := 1) (pc' := 8) rfl (hb hby own_d_method_2_code_1) rfl ((if0 _ _).trans (feq (by decide)).2) (by decide) (by decide) (XS.iloadN X0.here hx rfl (hb hby own_d_method_2_code_8) rfl (XS.iconst X0.here hx rfl (hb hby own_d_method_2_code_9) (XS.icmpYes X0.here hx rfl (pc0 := 10) (pc' := 17) rfl (hb hby own_d_method_2_code_10) rfl (feq (by decide)).2 (by decide) (by decide) (XS.iloadN X0.here hx rfl (hb hby own_d_method_2_code_17) rfl (XS.iconst X0.here hx rfl (hb hby own_d_method_2_code_18) (XS.icmpNo X0.here hx rfl (hb hby own_d_method_2_code_19) rfl (teq (by decide)).2 hr)))))))) ?_
  show own_Go p e below _ (s₁.setTop (mkF m 22 #[.val (.int (2 : Int32))] []))
  obtain ⟨T1, X1, e1, st1⟩ := getS2 X0 hx hZ hown (host := "") (Or.inl (hw _ (own_m 63 rfl))) Via.refl e0 P0 (g := (mkF m 22 #[.val (.int (2 : Int32))] [])) rfl (hb hby own_d_method_2_code_22)
  refine own_go st1 ?_
  show own_Go p e below _ (T1.setTop (mkF m 25 #[.val (.int (2 : Int32))] [(.ref o0)]))
  exact own_retR X1 hx hlk Bd.returns rfl rfl (hb hby own_d_method_2_code_25) (by decide) (by decide) ⟨rfl, N0, e1⟩
def Q_length_51 (Z : State) (h0 : Heap) (n0 : Nat) (v : Option Value) (h : Heap) (L : List Loc) : Prop := v = some (.int (7 : Int32)) ∧ Fr n0 L ∧ h = h0
set_option maxRecDepth 65536 in
set_option maxHeartbeats 40000000 in
theorem rm_length_51 (l : Launch) (Z : State) (a0 : Array Value) (hw : ∀ d ∈ tables_1, d.before a0 Z = true) (ws : List Jvm.Cond) (o0 : Addr) (o1 : Addr) (kc0 : ClassId) (y0 : Int32) (h0 : Heap) (n0 : Nat) (Z0 : n0 ≤ h0.size) (P0 : Fld Z h0 o0 "java/lang/String" "value" "[B" (.ref o1)) (P1 : Arv Z h0 o1 kc0 .byte (7 : Int32) [(.int (116 : Int32)), (.int (97 : Int32)), (.int (120 : Int32)), (.int (95 : Int32)), (.int (121 : Int32)), (.int (101 : Int32)), (.int (110 : Int32))] (.int (0 : Int32))) (P2 : Sta Z h0 "java/lang/String" "COMPACT_STRINGS" "Z" (.int y0)) (P3 : Fld Z h0 o0 "java/lang/String" "coder" "B" (.int (0 : Int32))) (P4 : Exa Z h0 o0 "java/lang/String") (hb0 : ¬ (y0 = (0 : Int32))) :
    MetFree l (⟨"java/lang/String", "length", "()I"⟩ : MethodName) (head1 (Jvm.Cond.code (⟨"java/lang/String", "length", "()I"⟩ : MethodName) jdk_42_method_54_code 1 (some .int) :: ws) ({ frames := 1, cells := 0, slots := 0, locals := 13 } : Room)) (fun aA U => aA = #[(.ref o0)] ∧ Z.Warmed39 U.vm ∧ U.heap = h0) (fun _ _ _ _ _ => True) (fun _ U o U' => ∃ v L, o = .returned v ∧ Q_length_51 Z h0 n0 v U'.heap L ∧ FrameEnd U o U' L ({ frames := 1, cells := 0, slots := 0, locals := 13 } : Room).cells ({ frames := 1, cells := 0, slots := 0, locals := 13 } : Room).slots) := by
  refine MetFree.of_bodySF (plainFor_of_name own_pn_java_lang_String) hisR ?_
  intro p e s m args below meth c s₁ Bd hml0 hP hK
  obtain ⟨rfl, hZ, hh⟩ := hP
  have hx := Bd.exec
  have hby := Bd.bytes
  have hlk : meth.locks = false := BodyLoose.notSynchronized Bd
  have hml : c.maxLocals = 1 := hml0
  have hown : s.vm.findClass "java/lang/String" = some m.cls := findClass_of_methodNamed Bd.named
  have hnm := (name_of_methodNamed Bd.named Bd.method).1
  have X0 : Stand p l e ({ frames := 1, cells := 0, slots := 0, locals := 13 } : Room) s m #[(.ref o0)] below meth c s₁ [] 0 0 := Stand.of_body Bd
  have e0 : s₁.heap = h0 := by rw [← hh, Bd.state]; rfl
  have N0 := Fr.nil n0
  show own_Go p e below (own_K s (Q_length_51 Z h0 n0) ({ frames := 1, cells := 0, slots := 0, locals := 13 } : Room).cells ({ frames := 1, cells := 0, slots := 0, locals := 13 } : Room).slots) (s₁.setTop (entryFrame m #[(.ref o0)] 1))
  rw [(by first | (simp [entryFrame, mkF, argsToLocals, Value.category]; done) | rfl : entryFrame m #[(.ref o0)] 1 = mkF m 0 #[.val (.ref o0)] [])]
  show own_Go p e below _ (s₁.setTop (mkF m 0 #[.val (.ref o0)] []))
  refine own_go (fun _ hr => XS.aloadN X0.here hx rfl (hb hby own_d_jdk_42_method_54_code_0) rfl rfl hr) ?_
  show own_Go p e below _ (s₁.setTop (mkF m 1 #[.val (.ref o0)] [(.ref o0)]))
  obtain ⟨T1, X1, e1, st1⟩ := getF X0 hx hZ hown (host := "") (Or.inl (hw _ (own_m 23 rfl))) Via.refl e0 P0 (g := (mkF m 1 #[.val (.ref o0)] [(.ref o0)])) rfl rfl (hb hby own_d_jdk_42_method_54_code_1)
  refine own_go st1 ?_
  show own_Go p e below _ (T1.setTop (mkF m 4 #[.val (.ref o0)] [(.ref o1)]))
  refine own_go (fun _ hr => own_alen X1 hx hZ e1 P1 rfl rfl (hb hby own_d_jdk_42_method_54_code_4) (XS.aloadN X1.here hx rfl (hb hby own_d_jdk_42_method_54_code_5) rfl rfl hr)) ?_
  show own_Go p e below _ (T1.setTop (mkF m 6 #[.val (.ref o0)] [(.ref o0), (.int (7 : Int32))]))
  refine own_cv X1 hx hZ hown (notFace_of_selects (args := #[]) (mvT hZ (hw _ (own_m 28 rfl)))) (hw _ (own_m 25 rfl)) (hw _ (own_m 26 rfl)) (hw _ (own_m 28 rfl)) (hw _ (own_m 27 rfl)) (hw _ (own_m 21 rfl)) (hw _ (own_m 29 rfl)) (by decide) P4 (rm := { frames := 0, cells := 0, slots := 0, locals := 0 }) (rm_coder_2 l Z a0 hw [] o0 y0 h0 n0 Z0 P2 P3 hb0) (by decide) (W := 1) (by decide) (by decide) (by decide) e1 (by rw [hml]; rfl) (argsL := []) (lenOf own_pd2 rfl) (rest := [(.int (7 : Int32))]) rfl rfl (Nat.le_of_eq rfl) (hb hby own_d_jdk_42_method_54_code_6) ?_
  intro _ T2 L2 X2 hQ2
  obtain ⟨rfl, N2q, e2⟩ := hQ2
  have N2 := Fr.app N0 N2q
  show own_Go p e below _ (T2.setTop (mkF m 9 #[.val (.ref o0)] [(.int (0 : Int32)), (.int (7 : Int32))]))
  refine own_go (fun _ hr => XS.ishr X2.here hx rfl (hb hby own_d_jdk_42_method_54_code_9) rfl hr) ?_
  show own_Go p e below _ (T2.setTop (mkF m 10 #[.val (.ref o0)] [(.int (7 : Int32))]))
  exact own_retI X2 hx hlk Bd.returns (hb hby own_d_jdk_42_method_54_code_10) (by decide) (by decide) ⟨rfl, N2, e2⟩
def Q_checkIndex_52 (Z : State) (h0 : Heap) (n0 : Nat) (v : Option Value) (h : Heap) (L : List Loc) : Prop := v = some (.int (3 : Int32)) ∧ Fr n0 L ∧ h = h0
set_option maxRecDepth 65536 in
set_option maxHeartbeats 40000000 in
theorem rm_checkIndex_52 (l : Launch) (Z : State) (a0 : Array Value) (hw : ∀ d ∈ tables_1, d.before a0 Z = true) (ws : List Jvm.Cond) (vv0 : Value) (h0 : Heap) (n0 : Nat) (Z0 : n0 ≤ h0.size) (hvv0 : vv0.isRef = true) :
    MetFree l (⟨"jdk/internal/util/Preconditions", "checkIndex", "(IILjava/util/function/BiFunction;)I"⟩ : MethodName) (head1 (Jvm.Cond.code (⟨"jdk/internal/util/Preconditions", "checkIndex", "(IILjava/util/function/BiFunction;)I"⟩ : MethodName) jdk_41_method_11_code 3 (some .int) :: ws) ({ frames := 0, cells := 0, slots := 0, locals := 0 } : Room)) (fun aA U => aA = #[(.int (3 : Int32)), (.int (7 : Int32)), vv0] ∧ Z.Warmed39 U.vm ∧ U.heap = h0) (fun _ _ _ _ _ => True) (fun _ U o U' => ∃ v L, o = .returned v ∧ Q_checkIndex_52 Z h0 n0 v U'.heap L ∧ FrameEnd U o U' L ({ frames := 0, cells := 0, slots := 0, locals := 0 } : Room).cells ({ frames := 0, cells := 0, slots := 0, locals := 0 } : Room).slots) := by
  refine MetFree.of_bodySF (plainFor_of_name own_pn_jdk_internal_util_Preconditions) hisR ?_
  intro p e s m args below meth c s₁ Bd hml0 hP hK
  obtain ⟨rfl, hZ, hh⟩ := hP
  have hx := Bd.exec
  have hby := Bd.bytes
  have hlk : meth.locks = false := BodyLoose.notSynchronized Bd
  have hml : c.maxLocals = 3 := hml0
  have hown : s.vm.findClass "jdk/internal/util/Preconditions" = some m.cls := findClass_of_methodNamed Bd.named
  have hnm := (name_of_methodNamed Bd.named Bd.method).1
  have X0 : Stand p l e ({ frames := 0, cells := 0, slots := 0, locals := 0 } : Room) s m #[(.int (3 : Int32)), (.int (7 : Int32)), vv0] below meth c s₁ [] 0 0 := Stand.of_body Bd
  have e0 : s₁.heap = h0 := by rw [← hh, Bd.state]; rfl
  have N0 := Fr.nil n0
  show own_Go p e below (own_K s (Q_checkIndex_52 Z h0 n0) ({ frames := 0, cells := 0, slots := 0, locals := 0 } : Room).cells ({ frames := 0, cells := 0, slots := 0, locals := 0 } : Room).slots) (s₁.setTop (entryFrame m #[(.int (3 : Int32)), (.int (7 : Int32)), vv0] 3))
  rw [(by first | (simp [entryFrame, mkF, argsToLocals, Value.category]; done) | (have q := hvv0; revert q; cases vv0 <;> simp [entryFrame, mkF, argsToLocals, Value.category, Value.isRef]) | rfl : entryFrame m #[(.int (3 : Int32)), (.int (7 : Int32)), vv0] 3 = mkF m 0 #[.val (.int (3 : Int32)), .val (.int (7 : Int32)), .val vv0] [])]
  show own_Go p e below _ (s₁.setTop (mkF m 0 #[.val (.int (3 : Int32)), .val (.int (7 : Int32)), .val vv0] []))
  refine own_go (fun _ hr => XS.iloadN X0.here hx rfl (hb hby own_d_jdk_41_method_11_code_0) rfl (XS.ifNo X0.here hx rfl (hb hby own_d_jdk_41_method_11_code_1) rfl ((if0 _ _).trans (flt (by decide)).1) (XS.iloadN X0.here hx rfl (hb hby own_d_jdk_41_method_11_code_4) rfl (XS.iloadN X0.here hx rfl (hb hby own_d_jdk_41_method_11_code_5) rfl (XS.icmpYes X0.here hx rfl (pc0 := 6) (pc' := 16) rfl (hb hby own_d_jdk_41_method_11_code_6) rfl (tlt (by decide)).1 (by decide) (by decide) (XS.iloadN X0.here hx rfl (hb hby own_d_jdk_41_method_11_code_16) rfl hr)))))) ?_
  show own_Go p e below _ (s₁.setTop (mkF m 17 #[.val (.int (3 : Int32)), .val (.int (7 : Int32)), .val vv0] [(.int (3 : Int32))]))
  exact own_retI X0 hx hlk Bd.returns (hb hby own_d_jdk_41_method_11_code_17) (by decide) (by decide) ⟨rfl, N0, e0⟩
def Q_checkIndex_53 (Z : State) (h0 : Heap) (n0 : Nat) (v : Option Value) (h : Heap) (L : List Loc) : Prop := v = none ∧ Fr n0 L ∧ h = h0
set_option maxRecDepth 65536 in
set_option maxHeartbeats 40000000 in
theorem rm_checkIndex_53 (l : Launch) (Z : State) (a0 : Array Value) (hw : ∀ d ∈ tables_1, d.before a0 Z = true) (ws : List Jvm.Cond) (vv0 : Value) (h0 : Heap) (n0 : Nat) (Z0 : n0 ≤ h0.size) (P0 : Sta Z h0 "jdk/internal/util/Preconditions" "SIOOBE_FORMATTER" "Ljava/util/function/BiFunction;" vv0) (hvv0 : vv0.isRef = true) :
    MetFree l (⟨"java/lang/String", "checkIndex", "(II)V"⟩ : MethodName) (head1 (Jvm.Cond.code (⟨"java/lang/String", "checkIndex", "(II)V"⟩ : MethodName) jdk_42_method_155_code 2 none :: ws) ({ frames := 1, cells := 0, slots := 0, locals := 14 } : Room)) (fun aA U => aA = #[(.int (3 : Int32)), (.int (7 : Int32))] ∧ Z.Warmed39 U.vm ∧ U.heap = h0) (fun _ _ _ _ _ => True) (fun _ U o U' => ∃ v L, o = .returned v ∧ Q_checkIndex_53 Z h0 n0 v U'.heap L ∧ FrameEnd U o U' L ({ frames := 1, cells := 0, slots := 0, locals := 14 } : Room).cells ({ frames := 1, cells := 0, slots := 0, locals := 14 } : Room).slots) := by
  refine MetFree.of_bodySF (plainFor_of_name own_pn_java_lang_String) hisR ?_
  intro p e s m args below meth c s₁ Bd hml0 hP hK
  obtain ⟨rfl, hZ, hh⟩ := hP
  have hx := Bd.exec
  have hby := Bd.bytes
  have hlk : meth.locks = false := BodyLoose.notSynchronized Bd
  have hml : c.maxLocals = 2 := hml0
  have hown : s.vm.findClass "java/lang/String" = some m.cls := findClass_of_methodNamed Bd.named
  have hnm := (name_of_methodNamed Bd.named Bd.method).1
  have X0 : Stand p l e ({ frames := 1, cells := 0, slots := 0, locals := 14 } : Room) s m #[(.int (3 : Int32)), (.int (7 : Int32))] below meth c s₁ [] 0 0 := Stand.of_body Bd
  have e0 : s₁.heap = h0 := by rw [← hh, Bd.state]; rfl
  have N0 := Fr.nil n0
  show own_Go p e below (own_K s (Q_checkIndex_53 Z h0 n0) ({ frames := 1, cells := 0, slots := 0, locals := 14 } : Room).cells ({ frames := 1, cells := 0, slots := 0, locals := 14 } : Room).slots) (s₁.setTop (entryFrame m #[(.int (3 : Int32)), (.int (7 : Int32))] 2))
  rw [(by first | (simp [entryFrame, mkF, argsToLocals, Value.category]; done) | rfl : entryFrame m #[(.int (3 : Int32)), (.int (7 : Int32))] 2 = mkF m 0 #[.val (.int (3 : Int32)), .val (.int (7 : Int32))] [])]
  show own_Go p e below _ (s₁.setTop (mkF m 0 #[.val (.int (3 : Int32)), .val (.int (7 : Int32))] []))
  refine own_go (fun _ hr => XS.iloadN X0.here hx rfl (hb hby own_d_jdk_42_method_155_code_0) rfl (XS.iloadN X0.here hx rfl (hb hby own_d_jdk_42_method_155_code_1) rfl hr)) ?_
  show own_Go p e below _ (s₁.setTop (mkF m 2 #[.val (.int (3 : Int32)), .val (.int (7 : Int32))] [(.int (7 : Int32)), (.int (3 : Int32))]))
  obtain ⟨T1, X1, e1, st1⟩ := getS2 X0 hx hZ hown (host := "") (Or.inl (hw _ (own_m 50 rfl))) Via.refl e0 P0 (g := (mkF m 2 #[.val (.int (3 : Int32)), .val (.int (7 : Int32))] [(.int (7 : Int32)), (.int (3 : Int32))])) rfl (hb hby own_d_jdk_42_method_155_code_2)
  refine own_go st1 ?_
  show own_Go p e below _ (T1.setTop (mkF m 5 #[.val (.int (3 : Int32)), .val (.int (7 : Int32))] [vv0, (.int (7 : Int32)), (.int (3 : Int32))]))
  refine own_cs X1 hx hZ hown (hw _ (own_m 52 rfl)) (hw _ (own_m 53 rfl)) (hw _ (own_m 51 rfl)) (hw _ (own_m 54 rfl)) (by decide) (rm := { frames := 0, cells := 0, slots := 0, locals := 0 }) (rm_checkIndex_52 l Z a0 hw [] vv0 h0 n0 Z0 hvv0) (by decide) (W := 0) (by decide) (by decide) (by decide) e1 (by rw [hml]; rfl) (argsL := [(.int (3 : Int32)), (.int (7 : Int32)), vv0]) (lenOf own_pd5 rfl) (rest := []) rfl rfl (Nat.le_of_eq rfl) (hb hby own_d_jdk_42_method_155_code_5) ?_
  intro _ T2 L2 X2 hQ2
  obtain ⟨rfl, N2q, e2⟩ := hQ2
  have N2 := Fr.app N0 N2q
  show own_Go p e below _ (T2.setTop (mkF m 8 #[.val (.int (3 : Int32)), .val (.int (7 : Int32))] [(.int (3 : Int32))]))
  refine own_go (fun _ hr => XS.pop X2.here hx rfl (hb hby own_d_jdk_42_method_155_code_8) rfl rfl hr) ?_
  show own_Go p e below _ (T2.setTop (mkF m 9 #[.val (.int (3 : Int32)), .val (.int (7 : Int32))] []))
  exact own_ret0 X2 hx hlk Bd.returns (hb hby own_d_jdk_42_method_155_code_9) (by decide) (by decide) ⟨rfl, N2, e2⟩
def Q_charAt_54 (Z : State) (h0 : Heap) (n0 : Nat) (v : Option Value) (h : Heap) (L : List Loc) : Prop := v = some (.int (95 : Int32)) ∧ Fr n0 L ∧ h = h0
set_option maxRecDepth 65536 in
set_option maxHeartbeats 40000000 in
theorem rm_charAt_54 (l : Launch) (Z : State) (a0 : Array Value) (hw : ∀ d ∈ tables_1, d.before a0 Z = true) (ws : List Jvm.Cond) (o0 : Addr) (kc0 : ClassId) (vv0 : Value) (h0 : Heap) (n0 : Nat) (Z0 : n0 ≤ h0.size) (P0 : Arv Z h0 o0 kc0 .byte (7 : Int32) [(.int (116 : Int32)), (.int (97 : Int32)), (.int (120 : Int32)), (.int (95 : Int32)), (.int (121 : Int32)), (.int (101 : Int32)), (.int (110 : Int32))] (.int (0 : Int32))) (P1 : Sta Z h0 "jdk/internal/util/Preconditions" "SIOOBE_FORMATTER" "Ljava/util/function/BiFunction;" vv0) (hvv0 : vv0.isRef = true) :
    MetFree l (⟨"java/lang/StringLatin1", "charAt", "([BI)C"⟩ : MethodName) (head1 (Jvm.Cond.code (⟨"java/lang/StringLatin1", "charAt", "([BI)C"⟩ : MethodName) jdk_43_method_2_code 2 (some .char) :: ws) ({ frames := 2, cells := 0, slots := 0, locals := 27 } : Room)) (fun aA U => aA = #[(.ref o0), (.int (3 : Int32))] ∧ Z.Warmed39 U.vm ∧ U.heap = h0) (fun _ _ _ _ _ => True) (fun _ U o U' => ∃ v L, o = .returned v ∧ Q_charAt_54 Z h0 n0 v U'.heap L ∧ FrameEnd U o U' L ({ frames := 2, cells := 0, slots := 0, locals := 27 } : Room).cells ({ frames := 2, cells := 0, slots := 0, locals := 27 } : Room).slots) := by
  refine MetFree.of_bodySF (plainFor_of_name own_pn_java_lang_StringLatin1) hisR ?_
  intro p e s m args below meth c s₁ Bd hml0 hP hK
  obtain ⟨rfl, hZ, hh⟩ := hP
  have hx := Bd.exec
  have hby := Bd.bytes
  have hlk : meth.locks = false := BodyLoose.notSynchronized Bd
  have hml : c.maxLocals = 2 := hml0
  have hown : s.vm.findClass "java/lang/StringLatin1" = some m.cls := findClass_of_methodNamed Bd.named
  have hnm := (name_of_methodNamed Bd.named Bd.method).1
  have X0 : Stand p l e ({ frames := 2, cells := 0, slots := 0, locals := 27 } : Room) s m #[(.ref o0), (.int (3 : Int32))] below meth c s₁ [] 0 0 := Stand.of_body Bd
  have e0 : s₁.heap = h0 := by rw [← hh, Bd.state]; rfl
  have N0 := Fr.nil n0
  show own_Go p e below (own_K s (Q_charAt_54 Z h0 n0) ({ frames := 2, cells := 0, slots := 0, locals := 27 } : Room).cells ({ frames := 2, cells := 0, slots := 0, locals := 27 } : Room).slots) (s₁.setTop (entryFrame m #[(.ref o0), (.int (3 : Int32))] 2))
  rw [(by first | (simp [entryFrame, mkF, argsToLocals, Value.category]; done) | rfl : entryFrame m #[(.ref o0), (.int (3 : Int32))] 2 = mkF m 0 #[.val (.ref o0), .val (.int (3 : Int32))] [])]
  show own_Go p e below _ (s₁.setTop (mkF m 0 #[.val (.ref o0), .val (.int (3 : Int32))] []))
  refine own_go (fun _ hr => XS.iloadN X0.here hx rfl (hb hby own_d_jdk_43_method_2_code_0) rfl (XS.aloadN X0.here hx rfl (hb hby own_d_jdk_43_method_2_code_1) rfl rfl (own_alen X0 hx hZ e0 P0 rfl rfl (hb hby own_d_jdk_43_method_2_code_2) hr))) ?_
  show own_Go p e below _ (s₁.setTop (mkF m 3 #[.val (.ref o0), .val (.int (3 : Int32))] [(.int (7 : Int32)), (.int (3 : Int32))]))
  refine own_cs X0 hx hZ hown (hw _ (own_m 47 rfl)) (hw _ (own_m 48 rfl)) (hw _ (own_m 21 rfl)) (hw _ (own_m 49 rfl)) (by decide) (rm := { frames := 1, cells := 0, slots := 0, locals := 14 }) (rm_checkIndex_53 l Z a0 hw [] vv0 h0 n0 Z0 P1 hvv0) (by decide) (W := 0) (by decide) (by decide) (by decide) e0 (by rw [hml]; rfl) (argsL := [(.int (3 : Int32)), (.int (7 : Int32))]) (lenOf own_pd6 rfl) (rest := []) rfl rfl (Nat.le_of_eq rfl) (hb hby own_d_jdk_43_method_2_code_3) ?_
  intro _ T1 L1 X1 hQ1
  obtain ⟨rfl, N1q, e1⟩ := hQ1
  have N1 := Fr.app N0 N1q
  show own_Go p e below _ (T1.setTop (mkF m 6 #[.val (.ref o0), .val (.int (3 : Int32))] []))
  refine own_go (fun _ hr => XS.aloadN X1.here hx rfl (hb hby own_d_jdk_43_method_2_code_6) rfl rfl (XS.iloadN X1.here hx rfl (hb hby own_d_jdk_43_method_2_code_7) rfl (own_baload X1 hx hZ e1 P0 (3 : Int32) (.int (95 : Int32)) ⟨by decide, by decide⟩ rfl rfl rfl (hb hby own_d_jdk_43_method_2_code_8) (XS.sipush X1.here hx rfl (hb hby own_d_jdk_43_method_2_code_9) (XS.iand X1.here hx rfl (hb hby own_d_jdk_43_method_2_code_12) rfl (XS.i2c X1.here hx rfl (hb hby own_d_jdk_43_method_2_code_13) rfl hr)))))) ?_
  show own_Go p e below _ (T1.setTop (mkF m 14 #[.val (.ref o0), .val (.int (3 : Int32))] [(.int (95 : Int32))]))
  exact own_retN X1 hx hlk Bd.returns (t := .char) (by simp) (hb hby own_d_jdk_43_method_2_code_14) (by decide) (by decide) ⟨rfl, N1, e1⟩
def Q_charAt_55 (Z : State) (h0 : Heap) (n0 : Nat) (v : Option Value) (h : Heap) (L : List Loc) : Prop := v = some (.int (95 : Int32)) ∧ Fr n0 L ∧ h = h0
set_option maxRecDepth 65536 in
set_option maxHeartbeats 40000000 in
theorem rm_charAt_55 (l : Launch) (Z : State) (a0 : Array Value) (hw : ∀ d ∈ tables_1, d.before a0 Z = true) (ws : List Jvm.Cond) (o0 : Addr) (y0 : Int32) (o1 : Addr) (kc0 : ClassId) (vv0 : Value) (h0 : Heap) (n0 : Nat) (Z0 : n0 ≤ h0.size) (P0 : Sta Z h0 "java/lang/String" "COMPACT_STRINGS" "Z" (.int y0)) (P1 : Fld Z h0 o0 "java/lang/String" "coder" "B" (.int (0 : Int32))) (P2 : Exa Z h0 o0 "java/lang/String") (P3 : Fld Z h0 o0 "java/lang/String" "value" "[B" (.ref o1)) (P4 : Arv Z h0 o1 kc0 .byte (7 : Int32) [(.int (116 : Int32)), (.int (97 : Int32)), (.int (120 : Int32)), (.int (95 : Int32)), (.int (121 : Int32)), (.int (101 : Int32)), (.int (110 : Int32))] (.int (0 : Int32))) (P5 : Sta Z h0 "jdk/internal/util/Preconditions" "SIOOBE_FORMATTER" "Ljava/util/function/BiFunction;" vv0) (hvv0 : vv0.isRef = true) (hb0 : ¬ (y0 = (0 : Int32))) :
    MetFree l (⟨"java/lang/String", "charAt", "(I)C"⟩ : MethodName) (head1 (Jvm.Cond.code (⟨"java/lang/String", "charAt", "(I)C"⟩ : MethodName) jdk_42_method_56_code 2 (some .char) :: ws) ({ frames := 3, cells := 0, slots := 0, locals := 40 } : Room)) (fun aA U => aA = #[(.ref o0), (.int (3 : Int32))] ∧ Z.Warmed39 U.vm ∧ U.heap = h0) (fun _ _ _ _ _ => True) (fun _ U o U' => ∃ v L, o = .returned v ∧ Q_charAt_55 Z h0 n0 v U'.heap L ∧ FrameEnd U o U' L ({ frames := 3, cells := 0, slots := 0, locals := 40 } : Room).cells ({ frames := 3, cells := 0, slots := 0, locals := 40 } : Room).slots) := by
  refine MetFree.of_bodySF (plainFor_of_name own_pn_java_lang_String) hisR ?_
  intro p e s m args below meth c s₁ Bd hml0 hP hK
  obtain ⟨rfl, hZ, hh⟩ := hP
  have hx := Bd.exec
  have hby := Bd.bytes
  have hlk : meth.locks = false := BodyLoose.notSynchronized Bd
  have hml : c.maxLocals = 2 := hml0
  have hown : s.vm.findClass "java/lang/String" = some m.cls := findClass_of_methodNamed Bd.named
  have hnm := (name_of_methodNamed Bd.named Bd.method).1
  have X0 : Stand p l e ({ frames := 3, cells := 0, slots := 0, locals := 40 } : Room) s m #[(.ref o0), (.int (3 : Int32))] below meth c s₁ [] 0 0 := Stand.of_body Bd
  have e0 : s₁.heap = h0 := by rw [← hh, Bd.state]; rfl
  have N0 := Fr.nil n0
  show own_Go p e below (own_K s (Q_charAt_55 Z h0 n0) ({ frames := 3, cells := 0, slots := 0, locals := 40 } : Room).cells ({ frames := 3, cells := 0, slots := 0, locals := 40 } : Room).slots) (s₁.setTop (entryFrame m #[(.ref o0), (.int (3 : Int32))] 2))
  rw [(by first | (simp [entryFrame, mkF, argsToLocals, Value.category]; done) | rfl : entryFrame m #[(.ref o0), (.int (3 : Int32))] 2 = mkF m 0 #[.val (.ref o0), .val (.int (3 : Int32))] [])]
  show own_Go p e below _ (s₁.setTop (mkF m 0 #[.val (.ref o0), .val (.int (3 : Int32))] []))
  refine own_go (fun _ hr => XS.aloadN X0.here hx rfl (hb hby own_d_jdk_42_method_56_code_0) rfl rfl hr) ?_
  show own_Go p e below _ (s₁.setTop (mkF m 1 #[.val (.ref o0), .val (.int (3 : Int32))] [(.ref o0)]))
  refine own_cv X0 hx hZ hown (notFace_of_selects (args := #[]) (mvT hZ (hw _ (own_m 41 rfl)))) (hw _ (own_m 38 rfl)) (hw _ (own_m 39 rfl)) (hw _ (own_m 41 rfl)) (hw _ (own_m 40 rfl)) (hw _ (own_m 21 rfl)) (hw _ (own_m 42 rfl)) (by decide) P2 (rm := { frames := 0, cells := 0, slots := 0, locals := 0 }) (rm_isLatin1_4 l Z a0 hw [] o0 y0 h0 n0 Z0 P0 P1 hb0) (by decide) (W := 0) (by decide) (by decide) (by decide) e0 (by rw [hml]; rfl) (argsL := []) (lenOf own_pd4 rfl) (rest := []) rfl rfl (Nat.le_of_eq rfl) (hb hby own_d_jdk_42_method_56_code_1) ?_
  intro _ T1 L1 X1 hQ1
  obtain ⟨rfl, N1q, e1⟩ := hQ1
  have N1 := Fr.app N0 N1q
  show own_Go p e below _ (T1.setTop (mkF m 4 #[.val (.ref o0), .val (.int (3 : Int32))] [(.int (1 : Int32))]))
  refine own_go (fun _ hr => XS.ifNo X1.here hx rfl (hb hby own_d_jdk_42_method_56_code_4) rfl ((if0 _ _).trans (feq (by decide)).1) (XS.aloadN X1.here hx rfl (hb hby own_d_jdk_42_method_56_code_7) rfl rfl hr)) ?_
  show own_Go p e below _ (T1.setTop (mkF m 8 #[.val (.ref o0), .val (.int (3 : Int32))] [(.ref o0)]))
  obtain ⟨T2, X2, e2, st2⟩ := getF X1 hx hZ hown (host := "") (Or.inl (hw _ (own_m 23 rfl))) Via.refl e1 P3 (g := (mkF m 8 #[.val (.ref o0), .val (.int (3 : Int32))] [(.ref o0)])) rfl rfl (hb hby own_d_jdk_42_method_56_code_8)
  refine own_go st2 ?_
  show own_Go p e below _ (T2.setTop (mkF m 11 #[.val (.ref o0), .val (.int (3 : Int32))] [(.ref o1)]))
  refine own_go (fun _ hr => XS.iloadN X2.here hx rfl (hb hby own_d_jdk_42_method_56_code_11) rfl hr) ?_
  show own_Go p e below _ (T2.setTop (mkF m 12 #[.val (.ref o0), .val (.int (3 : Int32))] [(.int (3 : Int32)), (.ref o1)]))
  refine own_cs X2 hx hZ hown (hw _ (own_m 43 rfl)) (hw _ (own_m 44 rfl)) (hw _ (own_m 45 rfl)) (hw _ (own_m 46 rfl)) (by decide) (rm := { frames := 2, cells := 0, slots := 0, locals := 27 }) (rm_charAt_54 l Z a0 hw [] o1 kc0 vv0 h0 n0 Z0 P4 P5 hvv0) (by decide) (W := 0) (by decide) (by decide) (by decide) e2 (by rw [hml]; rfl) (argsL := [(.ref o1), (.int (3 : Int32))]) (lenOf own_pd7 rfl) (rest := []) rfl rfl (Nat.le_of_eq rfl) (hb hby own_d_jdk_42_method_56_code_12) ?_
  intro _ T3 L3 X3 hQ3
  obtain ⟨rfl, N3q, e3⟩ := hQ3
  have N3 := Fr.app N1 N3q
  show own_Go p e below _ (T3.setTop (mkF m 15 #[.val (.ref o0), .val (.int (3 : Int32))] [(.int (95 : Int32))]))
  exact own_retN X3 hx hlk Bd.returns (t := .char) (by simp) (hb hby own_d_jdk_42_method_56_code_15) (by decide) (by decide) ⟨rfl, N3, e3⟩
def Q_checkIndex_56 (Z : State) (h0 : Heap) (n0 : Nat) (v : Option Value) (h : Heap) (L : List Loc) : Prop := v = some (.int (4 : Int32)) ∧ Fr n0 L ∧ h = h0
set_option maxRecDepth 65536 in
set_option maxHeartbeats 40000000 in
theorem rm_checkIndex_56 (l : Launch) (Z : State) (a0 : Array Value) (hw : ∀ d ∈ tables_1, d.before a0 Z = true) (ws : List Jvm.Cond) (vv0 : Value) (h0 : Heap) (n0 : Nat) (Z0 : n0 ≤ h0.size) (hvv0 : vv0.isRef = true) :
    MetFree l (⟨"jdk/internal/util/Preconditions", "checkIndex", "(IILjava/util/function/BiFunction;)I"⟩ : MethodName) (head1 (Jvm.Cond.code (⟨"jdk/internal/util/Preconditions", "checkIndex", "(IILjava/util/function/BiFunction;)I"⟩ : MethodName) jdk_41_method_11_code 3 (some .int) :: ws) ({ frames := 0, cells := 0, slots := 0, locals := 0 } : Room)) (fun aA U => aA = #[(.int (4 : Int32)), (.int (7 : Int32)), vv0] ∧ Z.Warmed39 U.vm ∧ U.heap = h0) (fun _ _ _ _ _ => True) (fun _ U o U' => ∃ v L, o = .returned v ∧ Q_checkIndex_56 Z h0 n0 v U'.heap L ∧ FrameEnd U o U' L ({ frames := 0, cells := 0, slots := 0, locals := 0 } : Room).cells ({ frames := 0, cells := 0, slots := 0, locals := 0 } : Room).slots) := by
  refine MetFree.of_bodySF (plainFor_of_name own_pn_jdk_internal_util_Preconditions) hisR ?_
  intro p e s m args below meth c s₁ Bd hml0 hP hK
  obtain ⟨rfl, hZ, hh⟩ := hP
  have hx := Bd.exec
  have hby := Bd.bytes
  have hlk : meth.locks = false := BodyLoose.notSynchronized Bd
  have hml : c.maxLocals = 3 := hml0
  have hown : s.vm.findClass "jdk/internal/util/Preconditions" = some m.cls := findClass_of_methodNamed Bd.named
  have hnm := (name_of_methodNamed Bd.named Bd.method).1
  have X0 : Stand p l e ({ frames := 0, cells := 0, slots := 0, locals := 0 } : Room) s m #[(.int (4 : Int32)), (.int (7 : Int32)), vv0] below meth c s₁ [] 0 0 := Stand.of_body Bd
  have e0 : s₁.heap = h0 := by rw [← hh, Bd.state]; rfl
  have N0 := Fr.nil n0
  show own_Go p e below (own_K s (Q_checkIndex_56 Z h0 n0) ({ frames := 0, cells := 0, slots := 0, locals := 0 } : Room).cells ({ frames := 0, cells := 0, slots := 0, locals := 0 } : Room).slots) (s₁.setTop (entryFrame m #[(.int (4 : Int32)), (.int (7 : Int32)), vv0] 3))
  rw [(by first | (simp [entryFrame, mkF, argsToLocals, Value.category]; done) | (have q := hvv0; revert q; cases vv0 <;> simp [entryFrame, mkF, argsToLocals, Value.category, Value.isRef]) | rfl : entryFrame m #[(.int (4 : Int32)), (.int (7 : Int32)), vv0] 3 = mkF m 0 #[.val (.int (4 : Int32)), .val (.int (7 : Int32)), .val vv0] [])]
  show own_Go p e below _ (s₁.setTop (mkF m 0 #[.val (.int (4 : Int32)), .val (.int (7 : Int32)), .val vv0] []))
  refine own_go (fun _ hr => XS.iloadN X0.here hx rfl (hb hby own_d_jdk_41_method_11_code_0) rfl (XS.ifNo X0.here hx rfl (hb hby own_d_jdk_41_method_11_code_1) rfl ((if0 _ _).trans (flt (by decide)).1) (XS.iloadN X0.here hx rfl (hb hby own_d_jdk_41_method_11_code_4) rfl (XS.iloadN X0.here hx rfl (hb hby own_d_jdk_41_method_11_code_5) rfl (XS.icmpYes X0.here hx rfl (pc0 := 6) (pc' := 16) rfl (hb hby own_d_jdk_41_method_11_code_6) rfl (tlt (by decide)).1 (by decide) (by decide) (XS.iloadN X0.here hx rfl (hb hby own_d_jdk_41_method_11_code_16) rfl hr)))))) ?_
  show own_Go p e below _ (s₁.setTop (mkF m 17 #[.val (.int (4 : Int32)), .val (.int (7 : Int32)), .val vv0] [(.int (4 : Int32))]))
  exact own_retI X0 hx hlk Bd.returns (hb hby own_d_jdk_41_method_11_code_17) (by decide) (by decide) ⟨rfl, N0, e0⟩
def Q_checkIndex_57 (Z : State) (h0 : Heap) (n0 : Nat) (v : Option Value) (h : Heap) (L : List Loc) : Prop := v = none ∧ Fr n0 L ∧ h = h0
set_option maxRecDepth 65536 in
set_option maxHeartbeats 40000000 in
theorem rm_checkIndex_57 (l : Launch) (Z : State) (a0 : Array Value) (hw : ∀ d ∈ tables_1, d.before a0 Z = true) (ws : List Jvm.Cond) (vv0 : Value) (h0 : Heap) (n0 : Nat) (Z0 : n0 ≤ h0.size) (P0 : Sta Z h0 "jdk/internal/util/Preconditions" "SIOOBE_FORMATTER" "Ljava/util/function/BiFunction;" vv0) (hvv0 : vv0.isRef = true) :
    MetFree l (⟨"java/lang/String", "checkIndex", "(II)V"⟩ : MethodName) (head1 (Jvm.Cond.code (⟨"java/lang/String", "checkIndex", "(II)V"⟩ : MethodName) jdk_42_method_155_code 2 none :: ws) ({ frames := 1, cells := 0, slots := 0, locals := 14 } : Room)) (fun aA U => aA = #[(.int (4 : Int32)), (.int (7 : Int32))] ∧ Z.Warmed39 U.vm ∧ U.heap = h0) (fun _ _ _ _ _ => True) (fun _ U o U' => ∃ v L, o = .returned v ∧ Q_checkIndex_57 Z h0 n0 v U'.heap L ∧ FrameEnd U o U' L ({ frames := 1, cells := 0, slots := 0, locals := 14 } : Room).cells ({ frames := 1, cells := 0, slots := 0, locals := 14 } : Room).slots) := by
  refine MetFree.of_bodySF (plainFor_of_name own_pn_java_lang_String) hisR ?_
  intro p e s m args below meth c s₁ Bd hml0 hP hK
  obtain ⟨rfl, hZ, hh⟩ := hP
  have hx := Bd.exec
  have hby := Bd.bytes
  have hlk : meth.locks = false := BodyLoose.notSynchronized Bd
  have hml : c.maxLocals = 2 := hml0
  have hown : s.vm.findClass "java/lang/String" = some m.cls := findClass_of_methodNamed Bd.named
  have hnm := (name_of_methodNamed Bd.named Bd.method).1
  have X0 : Stand p l e ({ frames := 1, cells := 0, slots := 0, locals := 14 } : Room) s m #[(.int (4 : Int32)), (.int (7 : Int32))] below meth c s₁ [] 0 0 := Stand.of_body Bd
  have e0 : s₁.heap = h0 := by rw [← hh, Bd.state]; rfl
  have N0 := Fr.nil n0
  show own_Go p e below (own_K s (Q_checkIndex_57 Z h0 n0) ({ frames := 1, cells := 0, slots := 0, locals := 14 } : Room).cells ({ frames := 1, cells := 0, slots := 0, locals := 14 } : Room).slots) (s₁.setTop (entryFrame m #[(.int (4 : Int32)), (.int (7 : Int32))] 2))
  rw [(by first | (simp [entryFrame, mkF, argsToLocals, Value.category]; done) | rfl : entryFrame m #[(.int (4 : Int32)), (.int (7 : Int32))] 2 = mkF m 0 #[.val (.int (4 : Int32)), .val (.int (7 : Int32))] [])]
  show own_Go p e below _ (s₁.setTop (mkF m 0 #[.val (.int (4 : Int32)), .val (.int (7 : Int32))] []))
  refine own_go (fun _ hr => XS.iloadN X0.here hx rfl (hb hby own_d_jdk_42_method_155_code_0) rfl (XS.iloadN X0.here hx rfl (hb hby own_d_jdk_42_method_155_code_1) rfl hr)) ?_
  show own_Go p e below _ (s₁.setTop (mkF m 2 #[.val (.int (4 : Int32)), .val (.int (7 : Int32))] [(.int (7 : Int32)), (.int (4 : Int32))]))
  obtain ⟨T1, X1, e1, st1⟩ := getS2 X0 hx hZ hown (host := "") (Or.inl (hw _ (own_m 50 rfl))) Via.refl e0 P0 (g := (mkF m 2 #[.val (.int (4 : Int32)), .val (.int (7 : Int32))] [(.int (7 : Int32)), (.int (4 : Int32))])) rfl (hb hby own_d_jdk_42_method_155_code_2)
  refine own_go st1 ?_
  show own_Go p e below _ (T1.setTop (mkF m 5 #[.val (.int (4 : Int32)), .val (.int (7 : Int32))] [vv0, (.int (7 : Int32)), (.int (4 : Int32))]))
  refine own_cs X1 hx hZ hown (hw _ (own_m 52 rfl)) (hw _ (own_m 53 rfl)) (hw _ (own_m 51 rfl)) (hw _ (own_m 54 rfl)) (by decide) (rm := { frames := 0, cells := 0, slots := 0, locals := 0 }) (rm_checkIndex_56 l Z a0 hw [] vv0 h0 n0 Z0 hvv0) (by decide) (W := 0) (by decide) (by decide) (by decide) e1 (by rw [hml]; rfl) (argsL := [(.int (4 : Int32)), (.int (7 : Int32)), vv0]) (lenOf own_pd5 rfl) (rest := []) rfl rfl (Nat.le_of_eq rfl) (hb hby own_d_jdk_42_method_155_code_5) ?_
  intro _ T2 L2 X2 hQ2
  obtain ⟨rfl, N2q, e2⟩ := hQ2
  have N2 := Fr.app N0 N2q
  show own_Go p e below _ (T2.setTop (mkF m 8 #[.val (.int (4 : Int32)), .val (.int (7 : Int32))] [(.int (4 : Int32))]))
  refine own_go (fun _ hr => XS.pop X2.here hx rfl (hb hby own_d_jdk_42_method_155_code_8) rfl rfl hr) ?_
  show own_Go p e below _ (T2.setTop (mkF m 9 #[.val (.int (4 : Int32)), .val (.int (7 : Int32))] []))
  exact own_ret0 X2 hx hlk Bd.returns (hb hby own_d_jdk_42_method_155_code_9) (by decide) (by decide) ⟨rfl, N2, e2⟩
def Q_charAt_58 (Z : State) (h0 : Heap) (n0 : Nat) (v : Option Value) (h : Heap) (L : List Loc) : Prop := v = some (.int (121 : Int32)) ∧ Fr n0 L ∧ h = h0
set_option maxRecDepth 65536 in
set_option maxHeartbeats 40000000 in
theorem rm_charAt_58 (l : Launch) (Z : State) (a0 : Array Value) (hw : ∀ d ∈ tables_1, d.before a0 Z = true) (ws : List Jvm.Cond) (o0 : Addr) (kc0 : ClassId) (vv0 : Value) (h0 : Heap) (n0 : Nat) (Z0 : n0 ≤ h0.size) (P0 : Arv Z h0 o0 kc0 .byte (7 : Int32) [(.int (116 : Int32)), (.int (97 : Int32)), (.int (120 : Int32)), (.int (95 : Int32)), (.int (121 : Int32)), (.int (101 : Int32)), (.int (110 : Int32))] (.int (0 : Int32))) (P1 : Sta Z h0 "jdk/internal/util/Preconditions" "SIOOBE_FORMATTER" "Ljava/util/function/BiFunction;" vv0) (hvv0 : vv0.isRef = true) :
    MetFree l (⟨"java/lang/StringLatin1", "charAt", "([BI)C"⟩ : MethodName) (head1 (Jvm.Cond.code (⟨"java/lang/StringLatin1", "charAt", "([BI)C"⟩ : MethodName) jdk_43_method_2_code 2 (some .char) :: ws) ({ frames := 2, cells := 0, slots := 0, locals := 27 } : Room)) (fun aA U => aA = #[(.ref o0), (.int (4 : Int32))] ∧ Z.Warmed39 U.vm ∧ U.heap = h0) (fun _ _ _ _ _ => True) (fun _ U o U' => ∃ v L, o = .returned v ∧ Q_charAt_58 Z h0 n0 v U'.heap L ∧ FrameEnd U o U' L ({ frames := 2, cells := 0, slots := 0, locals := 27 } : Room).cells ({ frames := 2, cells := 0, slots := 0, locals := 27 } : Room).slots) := by
  refine MetFree.of_bodySF (plainFor_of_name own_pn_java_lang_StringLatin1) hisR ?_
  intro p e s m args below meth c s₁ Bd hml0 hP hK
  obtain ⟨rfl, hZ, hh⟩ := hP
  have hx := Bd.exec
  have hby := Bd.bytes
  have hlk : meth.locks = false := BodyLoose.notSynchronized Bd
  have hml : c.maxLocals = 2 := hml0
  have hown : s.vm.findClass "java/lang/StringLatin1" = some m.cls := findClass_of_methodNamed Bd.named
  have hnm := (name_of_methodNamed Bd.named Bd.method).1
  have X0 : Stand p l e ({ frames := 2, cells := 0, slots := 0, locals := 27 } : Room) s m #[(.ref o0), (.int (4 : Int32))] below meth c s₁ [] 0 0 := Stand.of_body Bd
  have e0 : s₁.heap = h0 := by rw [← hh, Bd.state]; rfl
  have N0 := Fr.nil n0
  show own_Go p e below (own_K s (Q_charAt_58 Z h0 n0) ({ frames := 2, cells := 0, slots := 0, locals := 27 } : Room).cells ({ frames := 2, cells := 0, slots := 0, locals := 27 } : Room).slots) (s₁.setTop (entryFrame m #[(.ref o0), (.int (4 : Int32))] 2))
  rw [(by first | (simp [entryFrame, mkF, argsToLocals, Value.category]; done) | rfl : entryFrame m #[(.ref o0), (.int (4 : Int32))] 2 = mkF m 0 #[.val (.ref o0), .val (.int (4 : Int32))] [])]
  show own_Go p e below _ (s₁.setTop (mkF m 0 #[.val (.ref o0), .val (.int (4 : Int32))] []))
  refine own_go (fun _ hr => XS.iloadN X0.here hx rfl (hb hby own_d_jdk_43_method_2_code_0) rfl (XS.aloadN X0.here hx rfl (hb hby own_d_jdk_43_method_2_code_1) rfl rfl (own_alen X0 hx hZ e0 P0 rfl rfl (hb hby own_d_jdk_43_method_2_code_2) hr))) ?_
  show own_Go p e below _ (s₁.setTop (mkF m 3 #[.val (.ref o0), .val (.int (4 : Int32))] [(.int (7 : Int32)), (.int (4 : Int32))]))
  refine own_cs X0 hx hZ hown (hw _ (own_m 47 rfl)) (hw _ (own_m 48 rfl)) (hw _ (own_m 21 rfl)) (hw _ (own_m 49 rfl)) (by decide) (rm := { frames := 1, cells := 0, slots := 0, locals := 14 }) (rm_checkIndex_57 l Z a0 hw [] vv0 h0 n0 Z0 P1 hvv0) (by decide) (W := 0) (by decide) (by decide) (by decide) e0 (by rw [hml]; rfl) (argsL := [(.int (4 : Int32)), (.int (7 : Int32))]) (lenOf own_pd6 rfl) (rest := []) rfl rfl (Nat.le_of_eq rfl) (hb hby own_d_jdk_43_method_2_code_3) ?_
  intro _ T1 L1 X1 hQ1
  obtain ⟨rfl, N1q, e1⟩ := hQ1
  have N1 := Fr.app N0 N1q
  show own_Go p e below _ (T1.setTop (mkF m 6 #[.val (.ref o0), .val (.int (4 : Int32))] []))
  refine own_go (fun _ hr => XS.aloadN X1.here hx rfl (hb hby own_d_jdk_43_method_2_code_6) rfl rfl (XS.iloadN X1.here hx rfl (hb hby own_d_jdk_43_method_2_code_7) rfl (own_baload X1 hx hZ e1 P0 (4 : Int32) (.int (121 : Int32)) ⟨by decide, by decide⟩ rfl rfl rfl (hb hby own_d_jdk_43_method_2_code_8) (XS.sipush X1.here hx rfl (hb hby own_d_jdk_43_method_2_code_9) (XS.iand X1.here hx rfl (hb hby own_d_jdk_43_method_2_code_12) rfl (XS.i2c X1.here hx rfl (hb hby own_d_jdk_43_method_2_code_13) rfl hr)))))) ?_
  show own_Go p e below _ (T1.setTop (mkF m 14 #[.val (.ref o0), .val (.int (4 : Int32))] [(.int (121 : Int32))]))
  exact own_retN X1 hx hlk Bd.returns (t := .char) (by simp) (hb hby own_d_jdk_43_method_2_code_14) (by decide) (by decide) ⟨rfl, N1, e1⟩
def Q_charAt_59 (Z : State) (h0 : Heap) (n0 : Nat) (v : Option Value) (h : Heap) (L : List Loc) : Prop := v = some (.int (121 : Int32)) ∧ Fr n0 L ∧ h = h0
set_option maxRecDepth 65536 in
set_option maxHeartbeats 40000000 in
theorem rm_charAt_59 (l : Launch) (Z : State) (a0 : Array Value) (hw : ∀ d ∈ tables_1, d.before a0 Z = true) (ws : List Jvm.Cond) (o0 : Addr) (y0 : Int32) (o1 : Addr) (kc0 : ClassId) (vv0 : Value) (h0 : Heap) (n0 : Nat) (Z0 : n0 ≤ h0.size) (P0 : Sta Z h0 "java/lang/String" "COMPACT_STRINGS" "Z" (.int y0)) (P1 : Fld Z h0 o0 "java/lang/String" "coder" "B" (.int (0 : Int32))) (P2 : Exa Z h0 o0 "java/lang/String") (P3 : Fld Z h0 o0 "java/lang/String" "value" "[B" (.ref o1)) (P4 : Arv Z h0 o1 kc0 .byte (7 : Int32) [(.int (116 : Int32)), (.int (97 : Int32)), (.int (120 : Int32)), (.int (95 : Int32)), (.int (121 : Int32)), (.int (101 : Int32)), (.int (110 : Int32))] (.int (0 : Int32))) (P5 : Sta Z h0 "jdk/internal/util/Preconditions" "SIOOBE_FORMATTER" "Ljava/util/function/BiFunction;" vv0) (hvv0 : vv0.isRef = true) (hb0 : ¬ (y0 = (0 : Int32))) :
    MetFree l (⟨"java/lang/String", "charAt", "(I)C"⟩ : MethodName) (head1 (Jvm.Cond.code (⟨"java/lang/String", "charAt", "(I)C"⟩ : MethodName) jdk_42_method_56_code 2 (some .char) :: ws) ({ frames := 3, cells := 0, slots := 0, locals := 40 } : Room)) (fun aA U => aA = #[(.ref o0), (.int (4 : Int32))] ∧ Z.Warmed39 U.vm ∧ U.heap = h0) (fun _ _ _ _ _ => True) (fun _ U o U' => ∃ v L, o = .returned v ∧ Q_charAt_59 Z h0 n0 v U'.heap L ∧ FrameEnd U o U' L ({ frames := 3, cells := 0, slots := 0, locals := 40 } : Room).cells ({ frames := 3, cells := 0, slots := 0, locals := 40 } : Room).slots) := by
  refine MetFree.of_bodySF (plainFor_of_name own_pn_java_lang_String) hisR ?_
  intro p e s m args below meth c s₁ Bd hml0 hP hK
  obtain ⟨rfl, hZ, hh⟩ := hP
  have hx := Bd.exec
  have hby := Bd.bytes
  have hlk : meth.locks = false := BodyLoose.notSynchronized Bd
  have hml : c.maxLocals = 2 := hml0
  have hown : s.vm.findClass "java/lang/String" = some m.cls := findClass_of_methodNamed Bd.named
  have hnm := (name_of_methodNamed Bd.named Bd.method).1
  have X0 : Stand p l e ({ frames := 3, cells := 0, slots := 0, locals := 40 } : Room) s m #[(.ref o0), (.int (4 : Int32))] below meth c s₁ [] 0 0 := Stand.of_body Bd
  have e0 : s₁.heap = h0 := by rw [← hh, Bd.state]; rfl
  have N0 := Fr.nil n0
  show own_Go p e below (own_K s (Q_charAt_59 Z h0 n0) ({ frames := 3, cells := 0, slots := 0, locals := 40 } : Room).cells ({ frames := 3, cells := 0, slots := 0, locals := 40 } : Room).slots) (s₁.setTop (entryFrame m #[(.ref o0), (.int (4 : Int32))] 2))
  rw [(by first | (simp [entryFrame, mkF, argsToLocals, Value.category]; done) | rfl : entryFrame m #[(.ref o0), (.int (4 : Int32))] 2 = mkF m 0 #[.val (.ref o0), .val (.int (4 : Int32))] [])]
  show own_Go p e below _ (s₁.setTop (mkF m 0 #[.val (.ref o0), .val (.int (4 : Int32))] []))
  refine own_go (fun _ hr => XS.aloadN X0.here hx rfl (hb hby own_d_jdk_42_method_56_code_0) rfl rfl hr) ?_
  show own_Go p e below _ (s₁.setTop (mkF m 1 #[.val (.ref o0), .val (.int (4 : Int32))] [(.ref o0)]))
  refine own_cv X0 hx hZ hown (notFace_of_selects (args := #[]) (mvT hZ (hw _ (own_m 41 rfl)))) (hw _ (own_m 38 rfl)) (hw _ (own_m 39 rfl)) (hw _ (own_m 41 rfl)) (hw _ (own_m 40 rfl)) (hw _ (own_m 21 rfl)) (hw _ (own_m 42 rfl)) (by decide) P2 (rm := { frames := 0, cells := 0, slots := 0, locals := 0 }) (rm_isLatin1_4 l Z a0 hw [] o0 y0 h0 n0 Z0 P0 P1 hb0) (by decide) (W := 0) (by decide) (by decide) (by decide) e0 (by rw [hml]; rfl) (argsL := []) (lenOf own_pd4 rfl) (rest := []) rfl rfl (Nat.le_of_eq rfl) (hb hby own_d_jdk_42_method_56_code_1) ?_
  intro _ T1 L1 X1 hQ1
  obtain ⟨rfl, N1q, e1⟩ := hQ1
  have N1 := Fr.app N0 N1q
  show own_Go p e below _ (T1.setTop (mkF m 4 #[.val (.ref o0), .val (.int (4 : Int32))] [(.int (1 : Int32))]))
  refine own_go (fun _ hr => XS.ifNo X1.here hx rfl (hb hby own_d_jdk_42_method_56_code_4) rfl ((if0 _ _).trans (feq (by decide)).1) (XS.aloadN X1.here hx rfl (hb hby own_d_jdk_42_method_56_code_7) rfl rfl hr)) ?_
  show own_Go p e below _ (T1.setTop (mkF m 8 #[.val (.ref o0), .val (.int (4 : Int32))] [(.ref o0)]))
  obtain ⟨T2, X2, e2, st2⟩ := getF X1 hx hZ hown (host := "") (Or.inl (hw _ (own_m 23 rfl))) Via.refl e1 P3 (g := (mkF m 8 #[.val (.ref o0), .val (.int (4 : Int32))] [(.ref o0)])) rfl rfl (hb hby own_d_jdk_42_method_56_code_8)
  refine own_go st2 ?_
  show own_Go p e below _ (T2.setTop (mkF m 11 #[.val (.ref o0), .val (.int (4 : Int32))] [(.ref o1)]))
  refine own_go (fun _ hr => XS.iloadN X2.here hx rfl (hb hby own_d_jdk_42_method_56_code_11) rfl hr) ?_
  show own_Go p e below _ (T2.setTop (mkF m 12 #[.val (.ref o0), .val (.int (4 : Int32))] [(.int (4 : Int32)), (.ref o1)]))
  refine own_cs X2 hx hZ hown (hw _ (own_m 43 rfl)) (hw _ (own_m 44 rfl)) (hw _ (own_m 45 rfl)) (hw _ (own_m 46 rfl)) (by decide) (rm := { frames := 2, cells := 0, slots := 0, locals := 27 }) (rm_charAt_58 l Z a0 hw [] o1 kc0 vv0 h0 n0 Z0 P4 P5 hvv0) (by decide) (W := 0) (by decide) (by decide) (by decide) e2 (by rw [hml]; rfl) (argsL := [(.ref o1), (.int (4 : Int32))]) (lenOf own_pd7 rfl) (rest := []) rfl rfl (Nat.le_of_eq rfl) (hb hby own_d_jdk_42_method_56_code_12) ?_
  intro _ T3 L3 X3 hQ3
  obtain ⟨rfl, N3q, e3⟩ := hQ3
  have N3 := Fr.app N1 N3q
  show own_Go p e below _ (T3.setTop (mkF m 15 #[.val (.ref o0), .val (.int (4 : Int32))] [(.int (121 : Int32))]))
  exact own_retN X3 hx hlk Bd.returns (t := .char) (by simp) (hb hby own_d_jdk_42_method_56_code_15) (by decide) (by decide) ⟨rfl, N3, e3⟩
def Q_checkIndex_60 (Z : State) (h0 : Heap) (n0 : Nat) (v : Option Value) (h : Heap) (L : List Loc) : Prop := v = some (.int (5 : Int32)) ∧ Fr n0 L ∧ h = h0
set_option maxRecDepth 65536 in
set_option maxHeartbeats 40000000 in
theorem rm_checkIndex_60 (l : Launch) (Z : State) (a0 : Array Value) (hw : ∀ d ∈ tables_1, d.before a0 Z = true) (ws : List Jvm.Cond) (vv0 : Value) (h0 : Heap) (n0 : Nat) (Z0 : n0 ≤ h0.size) (hvv0 : vv0.isRef = true) :
    MetFree l (⟨"jdk/internal/util/Preconditions", "checkIndex", "(IILjava/util/function/BiFunction;)I"⟩ : MethodName) (head1 (Jvm.Cond.code (⟨"jdk/internal/util/Preconditions", "checkIndex", "(IILjava/util/function/BiFunction;)I"⟩ : MethodName) jdk_41_method_11_code 3 (some .int) :: ws) ({ frames := 0, cells := 0, slots := 0, locals := 0 } : Room)) (fun aA U => aA = #[(.int (5 : Int32)), (.int (7 : Int32)), vv0] ∧ Z.Warmed39 U.vm ∧ U.heap = h0) (fun _ _ _ _ _ => True) (fun _ U o U' => ∃ v L, o = .returned v ∧ Q_checkIndex_60 Z h0 n0 v U'.heap L ∧ FrameEnd U o U' L ({ frames := 0, cells := 0, slots := 0, locals := 0 } : Room).cells ({ frames := 0, cells := 0, slots := 0, locals := 0 } : Room).slots) := by
  refine MetFree.of_bodySF (plainFor_of_name own_pn_jdk_internal_util_Preconditions) hisR ?_
  intro p e s m args below meth c s₁ Bd hml0 hP hK
  obtain ⟨rfl, hZ, hh⟩ := hP
  have hx := Bd.exec
  have hby := Bd.bytes
  have hlk : meth.locks = false := BodyLoose.notSynchronized Bd
  have hml : c.maxLocals = 3 := hml0
  have hown : s.vm.findClass "jdk/internal/util/Preconditions" = some m.cls := findClass_of_methodNamed Bd.named
  have hnm := (name_of_methodNamed Bd.named Bd.method).1
  have X0 : Stand p l e ({ frames := 0, cells := 0, slots := 0, locals := 0 } : Room) s m #[(.int (5 : Int32)), (.int (7 : Int32)), vv0] below meth c s₁ [] 0 0 := Stand.of_body Bd
  have e0 : s₁.heap = h0 := by rw [← hh, Bd.state]; rfl
  have N0 := Fr.nil n0
  show own_Go p e below (own_K s (Q_checkIndex_60 Z h0 n0) ({ frames := 0, cells := 0, slots := 0, locals := 0 } : Room).cells ({ frames := 0, cells := 0, slots := 0, locals := 0 } : Room).slots) (s₁.setTop (entryFrame m #[(.int (5 : Int32)), (.int (7 : Int32)), vv0] 3))
  rw [(by first | (simp [entryFrame, mkF, argsToLocals, Value.category]; done) | (have q := hvv0; revert q; cases vv0 <;> simp [entryFrame, mkF, argsToLocals, Value.category, Value.isRef]) | rfl : entryFrame m #[(.int (5 : Int32)), (.int (7 : Int32)), vv0] 3 = mkF m 0 #[.val (.int (5 : Int32)), .val (.int (7 : Int32)), .val vv0] [])]
  show own_Go p e below _ (s₁.setTop (mkF m 0 #[.val (.int (5 : Int32)), .val (.int (7 : Int32)), .val vv0] []))
  refine own_go (fun _ hr => XS.iloadN X0.here hx rfl (hb hby own_d_jdk_41_method_11_code_0) rfl (XS.ifNo X0.here hx rfl (hb hby own_d_jdk_41_method_11_code_1) rfl ((if0 _ _).trans (flt (by decide)).1) (XS.iloadN X0.here hx rfl (hb hby own_d_jdk_41_method_11_code_4) rfl (XS.iloadN X0.here hx rfl (hb hby own_d_jdk_41_method_11_code_5) rfl (XS.icmpYes X0.here hx rfl (pc0 := 6) (pc' := 16) rfl (hb hby own_d_jdk_41_method_11_code_6) rfl (tlt (by decide)).1 (by decide) (by decide) (XS.iloadN X0.here hx rfl (hb hby own_d_jdk_41_method_11_code_16) rfl hr)))))) ?_
  show own_Go p e below _ (s₁.setTop (mkF m 17 #[.val (.int (5 : Int32)), .val (.int (7 : Int32)), .val vv0] [(.int (5 : Int32))]))
  exact own_retI X0 hx hlk Bd.returns (hb hby own_d_jdk_41_method_11_code_17) (by decide) (by decide) ⟨rfl, N0, e0⟩
def Q_checkIndex_61 (Z : State) (h0 : Heap) (n0 : Nat) (v : Option Value) (h : Heap) (L : List Loc) : Prop := v = none ∧ Fr n0 L ∧ h = h0
set_option maxRecDepth 65536 in
set_option maxHeartbeats 40000000 in
theorem rm_checkIndex_61 (l : Launch) (Z : State) (a0 : Array Value) (hw : ∀ d ∈ tables_1, d.before a0 Z = true) (ws : List Jvm.Cond) (vv0 : Value) (h0 : Heap) (n0 : Nat) (Z0 : n0 ≤ h0.size) (P0 : Sta Z h0 "jdk/internal/util/Preconditions" "SIOOBE_FORMATTER" "Ljava/util/function/BiFunction;" vv0) (hvv0 : vv0.isRef = true) :
    MetFree l (⟨"java/lang/String", "checkIndex", "(II)V"⟩ : MethodName) (head1 (Jvm.Cond.code (⟨"java/lang/String", "checkIndex", "(II)V"⟩ : MethodName) jdk_42_method_155_code 2 none :: ws) ({ frames := 1, cells := 0, slots := 0, locals := 14 } : Room)) (fun aA U => aA = #[(.int (5 : Int32)), (.int (7 : Int32))] ∧ Z.Warmed39 U.vm ∧ U.heap = h0) (fun _ _ _ _ _ => True) (fun _ U o U' => ∃ v L, o = .returned v ∧ Q_checkIndex_61 Z h0 n0 v U'.heap L ∧ FrameEnd U o U' L ({ frames := 1, cells := 0, slots := 0, locals := 14 } : Room).cells ({ frames := 1, cells := 0, slots := 0, locals := 14 } : Room).slots) := by
  refine MetFree.of_bodySF (plainFor_of_name own_pn_java_lang_String) hisR ?_
  intro p e s m args below meth c s₁ Bd hml0 hP hK
  obtain ⟨rfl, hZ, hh⟩ := hP
  have hx := Bd.exec
  have hby := Bd.bytes
  have hlk : meth.locks = false := BodyLoose.notSynchronized Bd
  have hml : c.maxLocals = 2 := hml0
  have hown : s.vm.findClass "java/lang/String" = some m.cls := findClass_of_methodNamed Bd.named
  have hnm := (name_of_methodNamed Bd.named Bd.method).1
  have X0 : Stand p l e ({ frames := 1, cells := 0, slots := 0, locals := 14 } : Room) s m #[(.int (5 : Int32)), (.int (7 : Int32))] below meth c s₁ [] 0 0 := Stand.of_body Bd
  have e0 : s₁.heap = h0 := by rw [← hh, Bd.state]; rfl
  have N0 := Fr.nil n0
  show own_Go p e below (own_K s (Q_checkIndex_61 Z h0 n0) ({ frames := 1, cells := 0, slots := 0, locals := 14 } : Room).cells ({ frames := 1, cells := 0, slots := 0, locals := 14 } : Room).slots) (s₁.setTop (entryFrame m #[(.int (5 : Int32)), (.int (7 : Int32))] 2))
  rw [(by first | (simp [entryFrame, mkF, argsToLocals, Value.category]; done) | rfl : entryFrame m #[(.int (5 : Int32)), (.int (7 : Int32))] 2 = mkF m 0 #[.val (.int (5 : Int32)), .val (.int (7 : Int32))] [])]
  show own_Go p e below _ (s₁.setTop (mkF m 0 #[.val (.int (5 : Int32)), .val (.int (7 : Int32))] []))
  refine own_go (fun _ hr => XS.iloadN X0.here hx rfl (hb hby own_d_jdk_42_method_155_code_0) rfl (XS.iloadN X0.here hx rfl (hb hby own_d_jdk_42_method_155_code_1) rfl hr)) ?_
  show own_Go p e below _ (s₁.setTop (mkF m 2 #[.val (.int (5 : Int32)), .val (.int (7 : Int32))] [(.int (7 : Int32)), (.int (5 : Int32))]))
  obtain ⟨T1, X1, e1, st1⟩ := getS2 X0 hx hZ hown (host := "") (Or.inl (hw _ (own_m 50 rfl))) Via.refl e0 P0 (g := (mkF m 2 #[.val (.int (5 : Int32)), .val (.int (7 : Int32))] [(.int (7 : Int32)), (.int (5 : Int32))])) rfl (hb hby own_d_jdk_42_method_155_code_2)
  refine own_go st1 ?_
  show own_Go p e below _ (T1.setTop (mkF m 5 #[.val (.int (5 : Int32)), .val (.int (7 : Int32))] [vv0, (.int (7 : Int32)), (.int (5 : Int32))]))
  refine own_cs X1 hx hZ hown (hw _ (own_m 52 rfl)) (hw _ (own_m 53 rfl)) (hw _ (own_m 51 rfl)) (hw _ (own_m 54 rfl)) (by decide) (rm := { frames := 0, cells := 0, slots := 0, locals := 0 }) (rm_checkIndex_60 l Z a0 hw [] vv0 h0 n0 Z0 hvv0) (by decide) (W := 0) (by decide) (by decide) (by decide) e1 (by rw [hml]; rfl) (argsL := [(.int (5 : Int32)), (.int (7 : Int32)), vv0]) (lenOf own_pd5 rfl) (rest := []) rfl rfl (Nat.le_of_eq rfl) (hb hby own_d_jdk_42_method_155_code_5) ?_
  intro _ T2 L2 X2 hQ2
  obtain ⟨rfl, N2q, e2⟩ := hQ2
  have N2 := Fr.app N0 N2q
  show own_Go p e below _ (T2.setTop (mkF m 8 #[.val (.int (5 : Int32)), .val (.int (7 : Int32))] [(.int (5 : Int32))]))
  refine own_go (fun _ hr => XS.pop X2.here hx rfl (hb hby own_d_jdk_42_method_155_code_8) rfl rfl hr) ?_
  show own_Go p e below _ (T2.setTop (mkF m 9 #[.val (.int (5 : Int32)), .val (.int (7 : Int32))] []))
  exact own_ret0 X2 hx hlk Bd.returns (hb hby own_d_jdk_42_method_155_code_9) (by decide) (by decide) ⟨rfl, N2, e2⟩
def Q_charAt_62 (Z : State) (h0 : Heap) (n0 : Nat) (v : Option Value) (h : Heap) (L : List Loc) : Prop := v = some (.int (101 : Int32)) ∧ Fr n0 L ∧ h = h0
set_option maxRecDepth 65536 in
set_option maxHeartbeats 40000000 in
theorem rm_charAt_62 (l : Launch) (Z : State) (a0 : Array Value) (hw : ∀ d ∈ tables_1, d.before a0 Z = true) (ws : List Jvm.Cond) (o0 : Addr) (kc0 : ClassId) (vv0 : Value) (h0 : Heap) (n0 : Nat) (Z0 : n0 ≤ h0.size) (P0 : Arv Z h0 o0 kc0 .byte (7 : Int32) [(.int (116 : Int32)), (.int (97 : Int32)), (.int (120 : Int32)), (.int (95 : Int32)), (.int (121 : Int32)), (.int (101 : Int32)), (.int (110 : Int32))] (.int (0 : Int32))) (P1 : Sta Z h0 "jdk/internal/util/Preconditions" "SIOOBE_FORMATTER" "Ljava/util/function/BiFunction;" vv0) (hvv0 : vv0.isRef = true) :
    MetFree l (⟨"java/lang/StringLatin1", "charAt", "([BI)C"⟩ : MethodName) (head1 (Jvm.Cond.code (⟨"java/lang/StringLatin1", "charAt", "([BI)C"⟩ : MethodName) jdk_43_method_2_code 2 (some .char) :: ws) ({ frames := 2, cells := 0, slots := 0, locals := 27 } : Room)) (fun aA U => aA = #[(.ref o0), (.int (5 : Int32))] ∧ Z.Warmed39 U.vm ∧ U.heap = h0) (fun _ _ _ _ _ => True) (fun _ U o U' => ∃ v L, o = .returned v ∧ Q_charAt_62 Z h0 n0 v U'.heap L ∧ FrameEnd U o U' L ({ frames := 2, cells := 0, slots := 0, locals := 27 } : Room).cells ({ frames := 2, cells := 0, slots := 0, locals := 27 } : Room).slots) := by
  refine MetFree.of_bodySF (plainFor_of_name own_pn_java_lang_StringLatin1) hisR ?_
  intro p e s m args below meth c s₁ Bd hml0 hP hK
  obtain ⟨rfl, hZ, hh⟩ := hP
  have hx := Bd.exec
  have hby := Bd.bytes
  have hlk : meth.locks = false := BodyLoose.notSynchronized Bd
  have hml : c.maxLocals = 2 := hml0
  have hown : s.vm.findClass "java/lang/StringLatin1" = some m.cls := findClass_of_methodNamed Bd.named
  have hnm := (name_of_methodNamed Bd.named Bd.method).1
  have X0 : Stand p l e ({ frames := 2, cells := 0, slots := 0, locals := 27 } : Room) s m #[(.ref o0), (.int (5 : Int32))] below meth c s₁ [] 0 0 := Stand.of_body Bd
  have e0 : s₁.heap = h0 := by rw [← hh, Bd.state]; rfl
  have N0 := Fr.nil n0
  show own_Go p e below (own_K s (Q_charAt_62 Z h0 n0) ({ frames := 2, cells := 0, slots := 0, locals := 27 } : Room).cells ({ frames := 2, cells := 0, slots := 0, locals := 27 } : Room).slots) (s₁.setTop (entryFrame m #[(.ref o0), (.int (5 : Int32))] 2))
  rw [(by first | (simp [entryFrame, mkF, argsToLocals, Value.category]; done) | rfl : entryFrame m #[(.ref o0), (.int (5 : Int32))] 2 = mkF m 0 #[.val (.ref o0), .val (.int (5 : Int32))] [])]
  show own_Go p e below _ (s₁.setTop (mkF m 0 #[.val (.ref o0), .val (.int (5 : Int32))] []))
  refine own_go (fun _ hr => XS.iloadN X0.here hx rfl (hb hby own_d_jdk_43_method_2_code_0) rfl (XS.aloadN X0.here hx rfl (hb hby own_d_jdk_43_method_2_code_1) rfl rfl (own_alen X0 hx hZ e0 P0 rfl rfl (hb hby own_d_jdk_43_method_2_code_2) hr))) ?_
  show own_Go p e below _ (s₁.setTop (mkF m 3 #[.val (.ref o0), .val (.int (5 : Int32))] [(.int (7 : Int32)), (.int (5 : Int32))]))
  refine own_cs X0 hx hZ hown (hw _ (own_m 47 rfl)) (hw _ (own_m 48 rfl)) (hw _ (own_m 21 rfl)) (hw _ (own_m 49 rfl)) (by decide) (rm := { frames := 1, cells := 0, slots := 0, locals := 14 }) (rm_checkIndex_61 l Z a0 hw [] vv0 h0 n0 Z0 P1 hvv0) (by decide) (W := 0) (by decide) (by decide) (by decide) e0 (by rw [hml]; rfl) (argsL := [(.int (5 : Int32)), (.int (7 : Int32))]) (lenOf own_pd6 rfl) (rest := []) rfl rfl (Nat.le_of_eq rfl) (hb hby own_d_jdk_43_method_2_code_3) ?_
  intro _ T1 L1 X1 hQ1
  obtain ⟨rfl, N1q, e1⟩ := hQ1
  have N1 := Fr.app N0 N1q
  show own_Go p e below _ (T1.setTop (mkF m 6 #[.val (.ref o0), .val (.int (5 : Int32))] []))
  refine own_go (fun _ hr => XS.aloadN X1.here hx rfl (hb hby own_d_jdk_43_method_2_code_6) rfl rfl (XS.iloadN X1.here hx rfl (hb hby own_d_jdk_43_method_2_code_7) rfl (own_baload X1 hx hZ e1 P0 (5 : Int32) (.int (101 : Int32)) ⟨by decide, by decide⟩ rfl rfl rfl (hb hby own_d_jdk_43_method_2_code_8) (XS.sipush X1.here hx rfl (hb hby own_d_jdk_43_method_2_code_9) (XS.iand X1.here hx rfl (hb hby own_d_jdk_43_method_2_code_12) rfl (XS.i2c X1.here hx rfl (hb hby own_d_jdk_43_method_2_code_13) rfl hr)))))) ?_
  show own_Go p e below _ (T1.setTop (mkF m 14 #[.val (.ref o0), .val (.int (5 : Int32))] [(.int (101 : Int32))]))
  exact own_retN X1 hx hlk Bd.returns (t := .char) (by simp) (hb hby own_d_jdk_43_method_2_code_14) (by decide) (by decide) ⟨rfl, N1, e1⟩
def Q_charAt_63 (Z : State) (h0 : Heap) (n0 : Nat) (v : Option Value) (h : Heap) (L : List Loc) : Prop := v = some (.int (101 : Int32)) ∧ Fr n0 L ∧ h = h0
set_option maxRecDepth 65536 in
set_option maxHeartbeats 40000000 in
theorem rm_charAt_63 (l : Launch) (Z : State) (a0 : Array Value) (hw : ∀ d ∈ tables_1, d.before a0 Z = true) (ws : List Jvm.Cond) (o0 : Addr) (y0 : Int32) (o1 : Addr) (kc0 : ClassId) (vv0 : Value) (h0 : Heap) (n0 : Nat) (Z0 : n0 ≤ h0.size) (P0 : Sta Z h0 "java/lang/String" "COMPACT_STRINGS" "Z" (.int y0)) (P1 : Fld Z h0 o0 "java/lang/String" "coder" "B" (.int (0 : Int32))) (P2 : Exa Z h0 o0 "java/lang/String") (P3 : Fld Z h0 o0 "java/lang/String" "value" "[B" (.ref o1)) (P4 : Arv Z h0 o1 kc0 .byte (7 : Int32) [(.int (116 : Int32)), (.int (97 : Int32)), (.int (120 : Int32)), (.int (95 : Int32)), (.int (121 : Int32)), (.int (101 : Int32)), (.int (110 : Int32))] (.int (0 : Int32))) (P5 : Sta Z h0 "jdk/internal/util/Preconditions" "SIOOBE_FORMATTER" "Ljava/util/function/BiFunction;" vv0) (hvv0 : vv0.isRef = true) (hb0 : ¬ (y0 = (0 : Int32))) :
    MetFree l (⟨"java/lang/String", "charAt", "(I)C"⟩ : MethodName) (head1 (Jvm.Cond.code (⟨"java/lang/String", "charAt", "(I)C"⟩ : MethodName) jdk_42_method_56_code 2 (some .char) :: ws) ({ frames := 3, cells := 0, slots := 0, locals := 40 } : Room)) (fun aA U => aA = #[(.ref o0), (.int (5 : Int32))] ∧ Z.Warmed39 U.vm ∧ U.heap = h0) (fun _ _ _ _ _ => True) (fun _ U o U' => ∃ v L, o = .returned v ∧ Q_charAt_63 Z h0 n0 v U'.heap L ∧ FrameEnd U o U' L ({ frames := 3, cells := 0, slots := 0, locals := 40 } : Room).cells ({ frames := 3, cells := 0, slots := 0, locals := 40 } : Room).slots) := by
  refine MetFree.of_bodySF (plainFor_of_name own_pn_java_lang_String) hisR ?_
  intro p e s m args below meth c s₁ Bd hml0 hP hK
  obtain ⟨rfl, hZ, hh⟩ := hP
  have hx := Bd.exec
  have hby := Bd.bytes
  have hlk : meth.locks = false := BodyLoose.notSynchronized Bd
  have hml : c.maxLocals = 2 := hml0
  have hown : s.vm.findClass "java/lang/String" = some m.cls := findClass_of_methodNamed Bd.named
  have hnm := (name_of_methodNamed Bd.named Bd.method).1
  have X0 : Stand p l e ({ frames := 3, cells := 0, slots := 0, locals := 40 } : Room) s m #[(.ref o0), (.int (5 : Int32))] below meth c s₁ [] 0 0 := Stand.of_body Bd
  have e0 : s₁.heap = h0 := by rw [← hh, Bd.state]; rfl
  have N0 := Fr.nil n0
  show own_Go p e below (own_K s (Q_charAt_63 Z h0 n0) ({ frames := 3, cells := 0, slots := 0, locals := 40 } : Room).cells ({ frames := 3, cells := 0, slots := 0, locals := 40 } : Room).slots) (s₁.setTop (entryFrame m #[(.ref o0), (.int (5 : Int32))] 2))
  rw [(by first | (simp [entryFrame, mkF, argsToLocals, Value.category]; done) | rfl : entryFrame m #[(.ref o0), (.int (5 : Int32))] 2 = mkF m 0 #[.val (.ref o0), .val (.int (5 : Int32))] [])]
  show own_Go p e below _ (s₁.setTop (mkF m 0 #[.val (.ref o0), .val (.int (5 : Int32))] []))
  refine own_go (fun _ hr => XS.aloadN X0.here hx rfl (hb hby own_d_jdk_42_method_56_code_0) rfl rfl hr) ?_
  show own_Go p e below _ (s₁.setTop (mkF m 1 #[.val (.ref o0), .val (.int (5 : Int32))] [(.ref o0)]))
  refine own_cv X0 hx hZ hown (notFace_of_selects (args := #[]) (mvT hZ (hw _ (own_m 41 rfl)))) (hw _ (own_m 38 rfl)) (hw _ (own_m 39 rfl)) (hw _ (own_m 41 rfl)) (hw _ (own_m 40 rfl)) (hw _ (own_m 21 rfl)) (hw _ (own_m 42 rfl)) (by decide) P2 (rm := { frames := 0, cells := 0, slots := 0, locals := 0 }) (rm_isLatin1_4 l Z a0 hw [] o0 y0 h0 n0 Z0 P0 P1 hb0) (by decide) (W := 0) (by decide) (by decide) (by decide) e0 (by rw [hml]; rfl) (argsL := []) (lenOf own_pd4 rfl) (rest := []) rfl rfl (Nat.le_of_eq rfl) (hb hby own_d_jdk_42_method_56_code_1) ?_
  intro _ T1 L1 X1 hQ1
  obtain ⟨rfl, N1q, e1⟩ := hQ1
  have N1 := Fr.app N0 N1q
  show own_Go p e below _ (T1.setTop (mkF m 4 #[.val (.ref o0), .val (.int (5 : Int32))] [(.int (1 : Int32))]))
  refine own_go (fun _ hr => XS.ifNo X1.here hx rfl (hb hby own_d_jdk_42_method_56_code_4) rfl ((if0 _ _).trans (feq (by decide)).1) (XS.aloadN X1.here hx rfl (hb hby own_d_jdk_42_method_56_code_7) rfl rfl hr)) ?_
  show own_Go p e below _ (T1.setTop (mkF m 8 #[.val (.ref o0), .val (.int (5 : Int32))] [(.ref o0)]))
  obtain ⟨T2, X2, e2, st2⟩ := getF X1 hx hZ hown (host := "") (Or.inl (hw _ (own_m 23 rfl))) Via.refl e1 P3 (g := (mkF m 8 #[.val (.ref o0), .val (.int (5 : Int32))] [(.ref o0)])) rfl rfl (hb hby own_d_jdk_42_method_56_code_8)
  refine own_go st2 ?_
  show own_Go p e below _ (T2.setTop (mkF m 11 #[.val (.ref o0), .val (.int (5 : Int32))] [(.ref o1)]))
  refine own_go (fun _ hr => XS.iloadN X2.here hx rfl (hb hby own_d_jdk_42_method_56_code_11) rfl hr) ?_
  show own_Go p e below _ (T2.setTop (mkF m 12 #[.val (.ref o0), .val (.int (5 : Int32))] [(.int (5 : Int32)), (.ref o1)]))
  refine own_cs X2 hx hZ hown (hw _ (own_m 43 rfl)) (hw _ (own_m 44 rfl)) (hw _ (own_m 45 rfl)) (hw _ (own_m 46 rfl)) (by decide) (rm := { frames := 2, cells := 0, slots := 0, locals := 27 }) (rm_charAt_62 l Z a0 hw [] o1 kc0 vv0 h0 n0 Z0 P4 P5 hvv0) (by decide) (W := 0) (by decide) (by decide) (by decide) e2 (by rw [hml]; rfl) (argsL := [(.ref o1), (.int (5 : Int32))]) (lenOf own_pd7 rfl) (rest := []) rfl rfl (Nat.le_of_eq rfl) (hb hby own_d_jdk_42_method_56_code_12) ?_
  intro _ T3 L3 X3 hQ3
  obtain ⟨rfl, N3q, e3⟩ := hQ3
  have N3 := Fr.app N1 N3q
  show own_Go p e below _ (T3.setTop (mkF m 15 #[.val (.ref o0), .val (.int (5 : Int32))] [(.int (101 : Int32))]))
  exact own_retN X3 hx hlk Bd.returns (t := .char) (by simp) (hb hby own_d_jdk_42_method_56_code_15) (by decide) (by decide) ⟨rfl, N3, e3⟩
def Q_checkIndex_64 (Z : State) (h0 : Heap) (n0 : Nat) (v : Option Value) (h : Heap) (L : List Loc) : Prop := v = some (.int (6 : Int32)) ∧ Fr n0 L ∧ h = h0
set_option maxRecDepth 65536 in
set_option maxHeartbeats 40000000 in
theorem rm_checkIndex_64 (l : Launch) (Z : State) (a0 : Array Value) (hw : ∀ d ∈ tables_1, d.before a0 Z = true) (ws : List Jvm.Cond) (vv0 : Value) (h0 : Heap) (n0 : Nat) (Z0 : n0 ≤ h0.size) (hvv0 : vv0.isRef = true) :
    MetFree l (⟨"jdk/internal/util/Preconditions", "checkIndex", "(IILjava/util/function/BiFunction;)I"⟩ : MethodName) (head1 (Jvm.Cond.code (⟨"jdk/internal/util/Preconditions", "checkIndex", "(IILjava/util/function/BiFunction;)I"⟩ : MethodName) jdk_41_method_11_code 3 (some .int) :: ws) ({ frames := 0, cells := 0, slots := 0, locals := 0 } : Room)) (fun aA U => aA = #[(.int (6 : Int32)), (.int (7 : Int32)), vv0] ∧ Z.Warmed39 U.vm ∧ U.heap = h0) (fun _ _ _ _ _ => True) (fun _ U o U' => ∃ v L, o = .returned v ∧ Q_checkIndex_64 Z h0 n0 v U'.heap L ∧ FrameEnd U o U' L ({ frames := 0, cells := 0, slots := 0, locals := 0 } : Room).cells ({ frames := 0, cells := 0, slots := 0, locals := 0 } : Room).slots) := by
  refine MetFree.of_bodySF (plainFor_of_name own_pn_jdk_internal_util_Preconditions) hisR ?_
  intro p e s m args below meth c s₁ Bd hml0 hP hK
  obtain ⟨rfl, hZ, hh⟩ := hP
  have hx := Bd.exec
  have hby := Bd.bytes
  have hlk : meth.locks = false := BodyLoose.notSynchronized Bd
  have hml : c.maxLocals = 3 := hml0
  have hown : s.vm.findClass "jdk/internal/util/Preconditions" = some m.cls := findClass_of_methodNamed Bd.named
  have hnm := (name_of_methodNamed Bd.named Bd.method).1
  have X0 : Stand p l e ({ frames := 0, cells := 0, slots := 0, locals := 0 } : Room) s m #[(.int (6 : Int32)), (.int (7 : Int32)), vv0] below meth c s₁ [] 0 0 := Stand.of_body Bd
  have e0 : s₁.heap = h0 := by rw [← hh, Bd.state]; rfl
  have N0 := Fr.nil n0
  show own_Go p e below (own_K s (Q_checkIndex_64 Z h0 n0) ({ frames := 0, cells := 0, slots := 0, locals := 0 } : Room).cells ({ frames := 0, cells := 0, slots := 0, locals := 0 } : Room).slots) (s₁.setTop (entryFrame m #[(.int (6 : Int32)), (.int (7 : Int32)), vv0] 3))
  rw [(by first | (simp [entryFrame, mkF, argsToLocals, Value.category]; done) | (have q := hvv0; revert q; cases vv0 <;> simp [entryFrame, mkF, argsToLocals, Value.category, Value.isRef]) | rfl : entryFrame m #[(.int (6 : Int32)), (.int (7 : Int32)), vv0] 3 = mkF m 0 #[.val (.int (6 : Int32)), .val (.int (7 : Int32)), .val vv0] [])]
  show own_Go p e below _ (s₁.setTop (mkF m 0 #[.val (.int (6 : Int32)), .val (.int (7 : Int32)), .val vv0] []))
  refine own_go (fun _ hr => XS.iloadN X0.here hx rfl (hb hby own_d_jdk_41_method_11_code_0) rfl (XS.ifNo X0.here hx rfl (hb hby own_d_jdk_41_method_11_code_1) rfl ((if0 _ _).trans (flt (by decide)).1) (XS.iloadN X0.here hx rfl (hb hby own_d_jdk_41_method_11_code_4) rfl (XS.iloadN X0.here hx rfl (hb hby own_d_jdk_41_method_11_code_5) rfl (XS.icmpYes X0.here hx rfl (pc0 := 6) (pc' := 16) rfl (hb hby own_d_jdk_41_method_11_code_6) rfl (tlt (by decide)).1 (by decide) (by decide) (XS.iloadN X0.here hx rfl (hb hby own_d_jdk_41_method_11_code_16) rfl hr)))))) ?_
  show own_Go p e below _ (s₁.setTop (mkF m 17 #[.val (.int (6 : Int32)), .val (.int (7 : Int32)), .val vv0] [(.int (6 : Int32))]))
  exact own_retI X0 hx hlk Bd.returns (hb hby own_d_jdk_41_method_11_code_17) (by decide) (by decide) ⟨rfl, N0, e0⟩
def Q_checkIndex_65 (Z : State) (h0 : Heap) (n0 : Nat) (v : Option Value) (h : Heap) (L : List Loc) : Prop := v = none ∧ Fr n0 L ∧ h = h0
set_option maxRecDepth 65536 in
set_option maxHeartbeats 40000000 in
theorem rm_checkIndex_65 (l : Launch) (Z : State) (a0 : Array Value) (hw : ∀ d ∈ tables_1, d.before a0 Z = true) (ws : List Jvm.Cond) (vv0 : Value) (h0 : Heap) (n0 : Nat) (Z0 : n0 ≤ h0.size) (P0 : Sta Z h0 "jdk/internal/util/Preconditions" "SIOOBE_FORMATTER" "Ljava/util/function/BiFunction;" vv0) (hvv0 : vv0.isRef = true) :
    MetFree l (⟨"java/lang/String", "checkIndex", "(II)V"⟩ : MethodName) (head1 (Jvm.Cond.code (⟨"java/lang/String", "checkIndex", "(II)V"⟩ : MethodName) jdk_42_method_155_code 2 none :: ws) ({ frames := 1, cells := 0, slots := 0, locals := 14 } : Room)) (fun aA U => aA = #[(.int (6 : Int32)), (.int (7 : Int32))] ∧ Z.Warmed39 U.vm ∧ U.heap = h0) (fun _ _ _ _ _ => True) (fun _ U o U' => ∃ v L, o = .returned v ∧ Q_checkIndex_65 Z h0 n0 v U'.heap L ∧ FrameEnd U o U' L ({ frames := 1, cells := 0, slots := 0, locals := 14 } : Room).cells ({ frames := 1, cells := 0, slots := 0, locals := 14 } : Room).slots) := by
  refine MetFree.of_bodySF (plainFor_of_name own_pn_java_lang_String) hisR ?_
  intro p e s m args below meth c s₁ Bd hml0 hP hK
  obtain ⟨rfl, hZ, hh⟩ := hP
  have hx := Bd.exec
  have hby := Bd.bytes
  have hlk : meth.locks = false := BodyLoose.notSynchronized Bd
  have hml : c.maxLocals = 2 := hml0
  have hown : s.vm.findClass "java/lang/String" = some m.cls := findClass_of_methodNamed Bd.named
  have hnm := (name_of_methodNamed Bd.named Bd.method).1
  have X0 : Stand p l e ({ frames := 1, cells := 0, slots := 0, locals := 14 } : Room) s m #[(.int (6 : Int32)), (.int (7 : Int32))] below meth c s₁ [] 0 0 := Stand.of_body Bd
  have e0 : s₁.heap = h0 := by rw [← hh, Bd.state]; rfl
  have N0 := Fr.nil n0
  show own_Go p e below (own_K s (Q_checkIndex_65 Z h0 n0) ({ frames := 1, cells := 0, slots := 0, locals := 14 } : Room).cells ({ frames := 1, cells := 0, slots := 0, locals := 14 } : Room).slots) (s₁.setTop (entryFrame m #[(.int (6 : Int32)), (.int (7 : Int32))] 2))
  rw [(by first | (simp [entryFrame, mkF, argsToLocals, Value.category]; done) | rfl : entryFrame m #[(.int (6 : Int32)), (.int (7 : Int32))] 2 = mkF m 0 #[.val (.int (6 : Int32)), .val (.int (7 : Int32))] [])]
  show own_Go p e below _ (s₁.setTop (mkF m 0 #[.val (.int (6 : Int32)), .val (.int (7 : Int32))] []))
  refine own_go (fun _ hr => XS.iloadN X0.here hx rfl (hb hby own_d_jdk_42_method_155_code_0) rfl (XS.iloadN X0.here hx rfl (hb hby own_d_jdk_42_method_155_code_1) rfl hr)) ?_
  show own_Go p e below _ (s₁.setTop (mkF m 2 #[.val (.int (6 : Int32)), .val (.int (7 : Int32))] [(.int (7 : Int32)), (.int (6 : Int32))]))
  obtain ⟨T1, X1, e1, st1⟩ := getS2 X0 hx hZ hown (host := "") (Or.inl (hw _ (own_m 50 rfl))) Via.refl e0 P0 (g := (mkF m 2 #[.val (.int (6 : Int32)), .val (.int (7 : Int32))] [(.int (7 : Int32)), (.int (6 : Int32))])) rfl (hb hby own_d_jdk_42_method_155_code_2)
  refine own_go st1 ?_
  show own_Go p e below _ (T1.setTop (mkF m 5 #[.val (.int (6 : Int32)), .val (.int (7 : Int32))] [vv0, (.int (7 : Int32)), (.int (6 : Int32))]))
  refine own_cs X1 hx hZ hown (hw _ (own_m 52 rfl)) (hw _ (own_m 53 rfl)) (hw _ (own_m 51 rfl)) (hw _ (own_m 54 rfl)) (by decide) (rm := { frames := 0, cells := 0, slots := 0, locals := 0 }) (rm_checkIndex_64 l Z a0 hw [] vv0 h0 n0 Z0 hvv0) (by decide) (W := 0) (by decide) (by decide) (by decide) e1 (by rw [hml]; rfl) (argsL := [(.int (6 : Int32)), (.int (7 : Int32)), vv0]) (lenOf own_pd5 rfl) (rest := []) rfl rfl (Nat.le_of_eq rfl) (hb hby own_d_jdk_42_method_155_code_5) ?_
  intro _ T2 L2 X2 hQ2
  obtain ⟨rfl, N2q, e2⟩ := hQ2
  have N2 := Fr.app N0 N2q
  show own_Go p e below _ (T2.setTop (mkF m 8 #[.val (.int (6 : Int32)), .val (.int (7 : Int32))] [(.int (6 : Int32))]))
  refine own_go (fun _ hr => XS.pop X2.here hx rfl (hb hby own_d_jdk_42_method_155_code_8) rfl rfl hr) ?_
  show own_Go p e below _ (T2.setTop (mkF m 9 #[.val (.int (6 : Int32)), .val (.int (7 : Int32))] []))
  exact own_ret0 X2 hx hlk Bd.returns (hb hby own_d_jdk_42_method_155_code_9) (by decide) (by decide) ⟨rfl, N2, e2⟩
def Q_charAt_66 (Z : State) (h0 : Heap) (n0 : Nat) (v : Option Value) (h : Heap) (L : List Loc) : Prop := v = some (.int (110 : Int32)) ∧ Fr n0 L ∧ h = h0
set_option maxRecDepth 65536 in
set_option maxHeartbeats 40000000 in
theorem rm_charAt_66 (l : Launch) (Z : State) (a0 : Array Value) (hw : ∀ d ∈ tables_1, d.before a0 Z = true) (ws : List Jvm.Cond) (o0 : Addr) (kc0 : ClassId) (vv0 : Value) (h0 : Heap) (n0 : Nat) (Z0 : n0 ≤ h0.size) (P0 : Arv Z h0 o0 kc0 .byte (7 : Int32) [(.int (116 : Int32)), (.int (97 : Int32)), (.int (120 : Int32)), (.int (95 : Int32)), (.int (121 : Int32)), (.int (101 : Int32)), (.int (110 : Int32))] (.int (0 : Int32))) (P1 : Sta Z h0 "jdk/internal/util/Preconditions" "SIOOBE_FORMATTER" "Ljava/util/function/BiFunction;" vv0) (hvv0 : vv0.isRef = true) :
    MetFree l (⟨"java/lang/StringLatin1", "charAt", "([BI)C"⟩ : MethodName) (head1 (Jvm.Cond.code (⟨"java/lang/StringLatin1", "charAt", "([BI)C"⟩ : MethodName) jdk_43_method_2_code 2 (some .char) :: ws) ({ frames := 2, cells := 0, slots := 0, locals := 27 } : Room)) (fun aA U => aA = #[(.ref o0), (.int (6 : Int32))] ∧ Z.Warmed39 U.vm ∧ U.heap = h0) (fun _ _ _ _ _ => True) (fun _ U o U' => ∃ v L, o = .returned v ∧ Q_charAt_66 Z h0 n0 v U'.heap L ∧ FrameEnd U o U' L ({ frames := 2, cells := 0, slots := 0, locals := 27 } : Room).cells ({ frames := 2, cells := 0, slots := 0, locals := 27 } : Room).slots) := by
  refine MetFree.of_bodySF (plainFor_of_name own_pn_java_lang_StringLatin1) hisR ?_
  intro p e s m args below meth c s₁ Bd hml0 hP hK
  obtain ⟨rfl, hZ, hh⟩ := hP
  have hx := Bd.exec
  have hby := Bd.bytes
  have hlk : meth.locks = false := BodyLoose.notSynchronized Bd
  have hml : c.maxLocals = 2 := hml0
  have hown : s.vm.findClass "java/lang/StringLatin1" = some m.cls := findClass_of_methodNamed Bd.named
  have hnm := (name_of_methodNamed Bd.named Bd.method).1
  have X0 : Stand p l e ({ frames := 2, cells := 0, slots := 0, locals := 27 } : Room) s m #[(.ref o0), (.int (6 : Int32))] below meth c s₁ [] 0 0 := Stand.of_body Bd
  have e0 : s₁.heap = h0 := by rw [← hh, Bd.state]; rfl
  have N0 := Fr.nil n0
  show own_Go p e below (own_K s (Q_charAt_66 Z h0 n0) ({ frames := 2, cells := 0, slots := 0, locals := 27 } : Room).cells ({ frames := 2, cells := 0, slots := 0, locals := 27 } : Room).slots) (s₁.setTop (entryFrame m #[(.ref o0), (.int (6 : Int32))] 2))
  rw [(by first | (simp [entryFrame, mkF, argsToLocals, Value.category]; done) | rfl : entryFrame m #[(.ref o0), (.int (6 : Int32))] 2 = mkF m 0 #[.val (.ref o0), .val (.int (6 : Int32))] [])]
  show own_Go p e below _ (s₁.setTop (mkF m 0 #[.val (.ref o0), .val (.int (6 : Int32))] []))
  refine own_go (fun _ hr => XS.iloadN X0.here hx rfl (hb hby own_d_jdk_43_method_2_code_0) rfl (XS.aloadN X0.here hx rfl (hb hby own_d_jdk_43_method_2_code_1) rfl rfl (own_alen X0 hx hZ e0 P0 rfl rfl (hb hby own_d_jdk_43_method_2_code_2) hr))) ?_
  show own_Go p e below _ (s₁.setTop (mkF m 3 #[.val (.ref o0), .val (.int (6 : Int32))] [(.int (7 : Int32)), (.int (6 : Int32))]))
  refine own_cs X0 hx hZ hown (hw _ (own_m 47 rfl)) (hw _ (own_m 48 rfl)) (hw _ (own_m 21 rfl)) (hw _ (own_m 49 rfl)) (by decide) (rm := { frames := 1, cells := 0, slots := 0, locals := 14 }) (rm_checkIndex_65 l Z a0 hw [] vv0 h0 n0 Z0 P1 hvv0) (by decide) (W := 0) (by decide) (by decide) (by decide) e0 (by rw [hml]; rfl) (argsL := [(.int (6 : Int32)), (.int (7 : Int32))]) (lenOf own_pd6 rfl) (rest := []) rfl rfl (Nat.le_of_eq rfl) (hb hby own_d_jdk_43_method_2_code_3) ?_
  intro _ T1 L1 X1 hQ1
  obtain ⟨rfl, N1q, e1⟩ := hQ1
  have N1 := Fr.app N0 N1q
  show own_Go p e below _ (T1.setTop (mkF m 6 #[.val (.ref o0), .val (.int (6 : Int32))] []))
  refine own_go (fun _ hr => XS.aloadN X1.here hx rfl (hb hby own_d_jdk_43_method_2_code_6) rfl rfl (XS.iloadN X1.here hx rfl (hb hby own_d_jdk_43_method_2_code_7) rfl (own_baload X1 hx hZ e1 P0 (6 : Int32) (.int (110 : Int32)) ⟨by decide, by decide⟩ rfl rfl rfl (hb hby own_d_jdk_43_method_2_code_8) (XS.sipush X1.here hx rfl (hb hby own_d_jdk_43_method_2_code_9) (XS.iand X1.here hx rfl (hb hby own_d_jdk_43_method_2_code_12) rfl (XS.i2c X1.here hx rfl (hb hby own_d_jdk_43_method_2_code_13) rfl hr)))))) ?_
  show own_Go p e below _ (T1.setTop (mkF m 14 #[.val (.ref o0), .val (.int (6 : Int32))] [(.int (110 : Int32))]))
  exact own_retN X1 hx hlk Bd.returns (t := .char) (by simp) (hb hby own_d_jdk_43_method_2_code_14) (by decide) (by decide) ⟨rfl, N1, e1⟩
def Q_charAt_67 (Z : State) (h0 : Heap) (n0 : Nat) (v : Option Value) (h : Heap) (L : List Loc) : Prop := v = some (.int (110 : Int32)) ∧ Fr n0 L ∧ h = h0
set_option maxRecDepth 65536 in
set_option maxHeartbeats 40000000 in
theorem rm_charAt_67 (l : Launch) (Z : State) (a0 : Array Value) (hw : ∀ d ∈ tables_1, d.before a0 Z = true) (ws : List Jvm.Cond) (o0 : Addr) (y0 : Int32) (o1 : Addr) (kc0 : ClassId) (vv0 : Value) (h0 : Heap) (n0 : Nat) (Z0 : n0 ≤ h0.size) (P0 : Sta Z h0 "java/lang/String" "COMPACT_STRINGS" "Z" (.int y0)) (P1 : Fld Z h0 o0 "java/lang/String" "coder" "B" (.int (0 : Int32))) (P2 : Exa Z h0 o0 "java/lang/String") (P3 : Fld Z h0 o0 "java/lang/String" "value" "[B" (.ref o1)) (P4 : Arv Z h0 o1 kc0 .byte (7 : Int32) [(.int (116 : Int32)), (.int (97 : Int32)), (.int (120 : Int32)), (.int (95 : Int32)), (.int (121 : Int32)), (.int (101 : Int32)), (.int (110 : Int32))] (.int (0 : Int32))) (P5 : Sta Z h0 "jdk/internal/util/Preconditions" "SIOOBE_FORMATTER" "Ljava/util/function/BiFunction;" vv0) (hvv0 : vv0.isRef = true) (hb0 : ¬ (y0 = (0 : Int32))) :
    MetFree l (⟨"java/lang/String", "charAt", "(I)C"⟩ : MethodName) (head1 (Jvm.Cond.code (⟨"java/lang/String", "charAt", "(I)C"⟩ : MethodName) jdk_42_method_56_code 2 (some .char) :: ws) ({ frames := 3, cells := 0, slots := 0, locals := 40 } : Room)) (fun aA U => aA = #[(.ref o0), (.int (6 : Int32))] ∧ Z.Warmed39 U.vm ∧ U.heap = h0) (fun _ _ _ _ _ => True) (fun _ U o U' => ∃ v L, o = .returned v ∧ Q_charAt_67 Z h0 n0 v U'.heap L ∧ FrameEnd U o U' L ({ frames := 3, cells := 0, slots := 0, locals := 40 } : Room).cells ({ frames := 3, cells := 0, slots := 0, locals := 40 } : Room).slots) := by
  refine MetFree.of_bodySF (plainFor_of_name own_pn_java_lang_String) hisR ?_
  intro p e s m args below meth c s₁ Bd hml0 hP hK
  obtain ⟨rfl, hZ, hh⟩ := hP
  have hx := Bd.exec
  have hby := Bd.bytes
  have hlk : meth.locks = false := BodyLoose.notSynchronized Bd
  have hml : c.maxLocals = 2 := hml0
  have hown : s.vm.findClass "java/lang/String" = some m.cls := findClass_of_methodNamed Bd.named
  have hnm := (name_of_methodNamed Bd.named Bd.method).1
  have X0 : Stand p l e ({ frames := 3, cells := 0, slots := 0, locals := 40 } : Room) s m #[(.ref o0), (.int (6 : Int32))] below meth c s₁ [] 0 0 := Stand.of_body Bd
  have e0 : s₁.heap = h0 := by rw [← hh, Bd.state]; rfl
  have N0 := Fr.nil n0
  show own_Go p e below (own_K s (Q_charAt_67 Z h0 n0) ({ frames := 3, cells := 0, slots := 0, locals := 40 } : Room).cells ({ frames := 3, cells := 0, slots := 0, locals := 40 } : Room).slots) (s₁.setTop (entryFrame m #[(.ref o0), (.int (6 : Int32))] 2))
  rw [(by first | (simp [entryFrame, mkF, argsToLocals, Value.category]; done) | rfl : entryFrame m #[(.ref o0), (.int (6 : Int32))] 2 = mkF m 0 #[.val (.ref o0), .val (.int (6 : Int32))] [])]
  show own_Go p e below _ (s₁.setTop (mkF m 0 #[.val (.ref o0), .val (.int (6 : Int32))] []))
  refine own_go (fun _ hr => XS.aloadN X0.here hx rfl (hb hby own_d_jdk_42_method_56_code_0) rfl rfl hr) ?_
  show own_Go p e below _ (s₁.setTop (mkF m 1 #[.val (.ref o0), .val (.int (6 : Int32))] [(.ref o0)]))
  refine own_cv X0 hx hZ hown (notFace_of_selects (args := #[]) (mvT hZ (hw _ (own_m 41 rfl)))) (hw _ (own_m 38 rfl)) (hw _ (own_m 39 rfl)) (hw _ (own_m 41 rfl)) (hw _ (own_m 40 rfl)) (hw _ (own_m 21 rfl)) (hw _ (own_m 42 rfl)) (by decide) P2 (rm := { frames := 0, cells := 0, slots := 0, locals := 0 }) (rm_isLatin1_4 l Z a0 hw [] o0 y0 h0 n0 Z0 P0 P1 hb0) (by decide) (W := 0) (by decide) (by decide) (by decide) e0 (by rw [hml]; rfl) (argsL := []) (lenOf own_pd4 rfl) (rest := []) rfl rfl (Nat.le_of_eq rfl) (hb hby own_d_jdk_42_method_56_code_1) ?_
  intro _ T1 L1 X1 hQ1
  obtain ⟨rfl, N1q, e1⟩ := hQ1
  have N1 := Fr.app N0 N1q
  show own_Go p e below _ (T1.setTop (mkF m 4 #[.val (.ref o0), .val (.int (6 : Int32))] [(.int (1 : Int32))]))
  refine own_go (fun _ hr => XS.ifNo X1.here hx rfl (hb hby own_d_jdk_42_method_56_code_4) rfl ((if0 _ _).trans (feq (by decide)).1) (XS.aloadN X1.here hx rfl (hb hby own_d_jdk_42_method_56_code_7) rfl rfl hr)) ?_
  show own_Go p e below _ (T1.setTop (mkF m 8 #[.val (.ref o0), .val (.int (6 : Int32))] [(.ref o0)]))
  obtain ⟨T2, X2, e2, st2⟩ := getF X1 hx hZ hown (host := "") (Or.inl (hw _ (own_m 23 rfl))) Via.refl e1 P3 (g := (mkF m 8 #[.val (.ref o0), .val (.int (6 : Int32))] [(.ref o0)])) rfl rfl (hb hby own_d_jdk_42_method_56_code_8)
  refine own_go st2 ?_
  show own_Go p e below _ (T2.setTop (mkF m 11 #[.val (.ref o0), .val (.int (6 : Int32))] [(.ref o1)]))
  refine own_go (fun _ hr => XS.iloadN X2.here hx rfl (hb hby own_d_jdk_42_method_56_code_11) rfl hr) ?_
  show own_Go p e below _ (T2.setTop (mkF m 12 #[.val (.ref o0), .val (.int (6 : Int32))] [(.int (6 : Int32)), (.ref o1)]))
  refine own_cs X2 hx hZ hown (hw _ (own_m 43 rfl)) (hw _ (own_m 44 rfl)) (hw _ (own_m 45 rfl)) (hw _ (own_m 46 rfl)) (by decide) (rm := { frames := 2, cells := 0, slots := 0, locals := 27 }) (rm_charAt_66 l Z a0 hw [] o1 kc0 vv0 h0 n0 Z0 P4 P5 hvv0) (by decide) (W := 0) (by decide) (by decide) (by decide) e2 (by rw [hml]; rfl) (argsL := [(.ref o1), (.int (6 : Int32))]) (lenOf own_pd7 rfl) (rest := []) rfl rfl (Nat.le_of_eq rfl) (hb hby own_d_jdk_42_method_56_code_12) ?_
  intro _ T3 L3 X3 hQ3
  obtain ⟨rfl, N3q, e3⟩ := hQ3
  have N3 := Fr.app N1 N3q
  show own_Go p e below _ (T3.setTop (mkF m 15 #[.val (.ref o0), .val (.int (6 : Int32))] [(.int (110 : Int32))]))
  exact own_retN X3 hx hlk Bd.returns (t := .char) (by simp) (hb hby own_d_jdk_42_method_56_code_15) (by decide) (by decide) ⟨rfl, N3, e3⟩
def Q_endsInYen_68 (Z : State) (h0 : Heap) (n0 : Nat) (v : Option Value) (h : Heap) (L : List Loc) : Prop := v = some (.int (1 : Int32)) ∧ Fr n0 L ∧ h = h0
set_option maxRecDepth 65536 in
set_option maxHeartbeats 40000000 in
theorem rm_endsInYen_68 (l : Launch) (Z : State) (a0 : Array Value) (hw : ∀ d ∈ tables_1, d.before a0 Z = true) (ws : List Jvm.Cond) (o0 : Addr) (o1 : Addr) (kc0 : ClassId) (y0 : Int32) (vv0 : Value) (h0 : Heap) (n0 : Nat) (Z0 : n0 ≤ h0.size) (P0 : Fld Z h0 o0 "java/lang/String" "value" "[B" (.ref o1)) (P1 : Arv Z h0 o1 kc0 .byte (7 : Int32) [(.int (116 : Int32)), (.int (97 : Int32)), (.int (120 : Int32)), (.int (95 : Int32)), (.int (121 : Int32)), (.int (101 : Int32)), (.int (110 : Int32))] (.int (0 : Int32))) (P2 : Sta Z h0 "java/lang/String" "COMPACT_STRINGS" "Z" (.int y0)) (P3 : Fld Z h0 o0 "java/lang/String" "coder" "B" (.int (0 : Int32))) (P4 : Exa Z h0 o0 "java/lang/String") (P5 : Sta Z h0 "jdk/internal/util/Preconditions" "SIOOBE_FORMATTER" "Ljava/util/function/BiFunction;" vv0) (hvv0 : vv0.isRef = true) (hb0 : ¬ (y0 = (0 : Int32))) :
    MetFree l (⟨"com/example/strict_tariff/stricttariff/pricing/ColumnIsAmountPinLaw", "endsInYen", "(Ljava/lang/String;)Z"⟩ : MethodName) (head1 (Jvm.Cond.code (⟨"com/example/strict_tariff/stricttariff/pricing/ColumnIsAmountPinLaw", "endsInYen", "(Ljava/lang/String;)Z"⟩ : MethodName) method_3_code 2 (some .boolean) :: ws) ({ frames := 4, cells := 0, slots := 0, locals := 53 } : Room)) (fun aA U => aA = #[(.ref o0)] ∧ Z.Warmed39 U.vm ∧ U.heap = h0) (fun _ _ _ _ _ => True) (fun _ U o U' => ∃ v L, o = .returned v ∧ Q_endsInYen_68 Z h0 n0 v U'.heap L ∧ FrameEnd U o U' L ({ frames := 4, cells := 0, slots := 0, locals := 53 } : Room).cells ({ frames := 4, cells := 0, slots := 0, locals := 53 } : Room).slots) := by
  refine MetFree.of_bodySF (plainFor_of_name own_pn_com_example_strict_tariff_stricttariff_pricing_ColumnIsAmountPinLaw) hisR ?_
  intro p e s m args below meth c s₁ Bd hml0 hP hK
  obtain ⟨rfl, hZ, hh⟩ := hP
  have hx := Bd.exec
  have hby := Bd.bytes
  have hlk : meth.locks = false := BodyLoose.notSynchronized Bd
  have hml : c.maxLocals = 2 := hml0
  have hown : s.vm.findClass "com/example/strict_tariff/stricttariff/pricing/ColumnIsAmountPinLaw" = some m.cls := findClass_of_methodNamed Bd.named
  have hnm := (name_of_methodNamed Bd.named Bd.method).1
  have X0 : Stand p l e ({ frames := 4, cells := 0, slots := 0, locals := 53 } : Room) s m #[(.ref o0)] below meth c s₁ [] 0 0 := Stand.of_body Bd
  have e0 : s₁.heap = h0 := by rw [← hh, Bd.state]; rfl
  have N0 := Fr.nil n0
  show own_Go p e below (own_K s (Q_endsInYen_68 Z h0 n0) ({ frames := 4, cells := 0, slots := 0, locals := 53 } : Room).cells ({ frames := 4, cells := 0, slots := 0, locals := 53 } : Room).slots) (s₁.setTop (entryFrame m #[(.ref o0)] 2))
  rw [(by first | (simp [entryFrame, mkF, argsToLocals, Value.category]; done) | rfl : entryFrame m #[(.ref o0)] 2 = mkF m 0 #[.val (.ref o0), .unset] [])]
  show own_Go p e below _ (s₁.setTop (mkF m 0 #[.val (.ref o0), .unset] []))
  refine own_go (fun _ hr => XS.aloadN X0.here hx rfl (hb hby own_d_method_3_code_0) rfl rfl hr) ?_
  show own_Go p e below _ (s₁.setTop (mkF m 1 #[.val (.ref o0), .unset] [(.ref o0)]))
  refine own_cv X0 hx hZ hown (notFace_of_selects (args := #[]) (mvT hZ (hw _ (own_m 20 rfl)))) (hw _ (own_m 17 rfl)) (hw _ (own_m 18 rfl)) (hw _ (own_m 20 rfl)) (hw _ (own_m 19 rfl)) (hw _ (own_m 21 rfl)) (hw _ (own_m 22 rfl)) (by decide) P4 (rm := { frames := 1, cells := 0, slots := 0, locals := 13 }) (rm_length_51 l Z a0 hw [] o0 o1 kc0 y0 h0 n0 Z0 P0 P1 P2 P3 P4 hb0) (by decide) (W := 0) (by decide) (by decide) (by decide) e0 (by rw [hml]; rfl) (argsL := []) (lenOf own_pd3 rfl) (rest := []) rfl rfl (Nat.le_of_eq rfl) (hb hby own_d_method_3_code_1) ?_
  intro _ T1 L1 X1 hQ1
  obtain ⟨rfl, N1q, e1⟩ := hQ1
  have N1 := Fr.app N0 N1q
  show own_Go p e below _ (T1.setTop (mkF m 4 #[.val (.ref o0), .unset] [(.int (7 : Int32))]))
  refine own_go (fun _ hr => XS.istoreN X1.here hx rfl (hb hby own_d_method_3_code_4) rfl (l' := #[.val (.ref o0), .val (.int (7 : Int32))]) rfl (XS.iloadN X1.here hx rfl (hb hby own_d_method_3_code_5) rfl (XS.iconst X1.here hx rfl (hb hby own_d_method_3_code_6) (XS.icmpNo X1.here hx rfl (hb hby own_d_method_3_code_7) rfl (flt (by decide)).1 (XS.aloadN X1.here hx rfl (hb hby own_d_method_3_code_10) rfl rfl (XS.iloadN X1.here hx rfl (hb hby own_d_method_3_code_11) rfl (XS.iconst X1.here hx rfl (hb hby own_d_method_3_code_12) (XS.isub X1.here hx rfl (hb hby own_d_method_3_code_13) rfl hr)))))))) ?_
  show own_Go p e below _ (T1.setTop (mkF m 14 #[.val (.ref o0), .val (.int (7 : Int32))] [(.int (3 : Int32)), (.ref o0)]))
  refine own_cv X1 hx hZ hown (notFace_of_selects (args := #[]) (mvT hZ (hw _ (own_m 36 rfl)))) (hw _ (own_m 33 rfl)) (hw _ (own_m 34 rfl)) (hw _ (own_m 36 rfl)) (hw _ (own_m 35 rfl)) (hw _ (own_m 21 rfl)) (hw _ (own_m 37 rfl)) (by decide) P4 (rm := { frames := 3, cells := 0, slots := 0, locals := 40 }) (rm_charAt_55 l Z a0 hw [] o0 y0 o1 kc0 vv0 h0 n0 Z0 P2 P3 P4 P0 P1 P5 hvv0 hb0) (by decide) (W := 0) (by decide) (by decide) (by decide) e1 (by rw [hml]; rfl) (argsL := [(.int (3 : Int32))]) (lenOf own_pd8 rfl) (rest := []) rfl rfl (Nat.le_of_eq rfl) (hb hby own_d_method_3_code_14) ?_
  intro _ T2 L2 X2 hQ2
  obtain ⟨rfl, N2q, e2⟩ := hQ2
  have N2 := Fr.app N1 N2q
  show own_Go p e below _ (T2.setTop (mkF m 17 #[.val (.ref o0), .val (.int (7 : Int32))] [(.int (95 : Int32))]))
  refine own_go (fun _ hr => XS.bipush X2.here hx rfl (hb hby own_d_method_3_code_17) (XS.icmpNo X2.here hx rfl (hb hby own_d_method_3_code_19) rfl (teq (by decide)).2 (XS.aloadN X2.here hx rfl (hb hby own_d_method_3_code_22) rfl rfl (XS.iloadN X2.here hx rfl (hb hby own_d_method_3_code_23) rfl (XS.iconst X2.here hx rfl (hb hby own_d_method_3_code_24) (XS.isub X2.here hx rfl (hb hby own_d_method_3_code_25) rfl hr)))))) ?_
  show own_Go p e below _ (T2.setTop (mkF m 26 #[.val (.ref o0), .val (.int (7 : Int32))] [(.int (4 : Int32)), (.ref o0)]))
  refine own_cv X2 hx hZ hown (notFace_of_selects (args := #[]) (mvT hZ (hw _ (own_m 36 rfl)))) (hw _ (own_m 33 rfl)) (hw _ (own_m 34 rfl)) (hw _ (own_m 36 rfl)) (hw _ (own_m 35 rfl)) (hw _ (own_m 21 rfl)) (hw _ (own_m 37 rfl)) (by decide) P4 (rm := { frames := 3, cells := 0, slots := 0, locals := 40 }) (rm_charAt_59 l Z a0 hw [] o0 y0 o1 kc0 vv0 h0 n0 Z0 P2 P3 P4 P0 P1 P5 hvv0 hb0) (by decide) (W := 0) (by decide) (by decide) (by decide) e2 (by rw [hml]; rfl) (argsL := [(.int (4 : Int32))]) (lenOf own_pd8 rfl) (rest := []) rfl rfl (Nat.le_of_eq rfl) (hb hby own_d_method_3_code_26) ?_
  intro _ T3 L3 X3 hQ3
  obtain ⟨rfl, N3q, e3⟩ := hQ3
  have N3 := Fr.app N2 N3q
  show own_Go p e below _ (T3.setTop (mkF m 29 #[.val (.ref o0), .val (.int (7 : Int32))] [(.int (121 : Int32))]))
  refine own_go (fun _ hr => XS.bipush X3.here hx rfl (hb hby own_d_method_3_code_29) (XS.icmpNo X3.here hx rfl (hb hby own_d_method_3_code_31) rfl (teq (by decide)).2 (XS.aloadN X3.here hx rfl (hb hby own_d_method_3_code_34) rfl rfl (XS.iloadN X3.here hx rfl (hb hby own_d_method_3_code_35) rfl (XS.iconst X3.here hx rfl (hb hby own_d_method_3_code_36) (XS.isub X3.here hx rfl (hb hby own_d_method_3_code_37) rfl hr)))))) ?_
  show own_Go p e below _ (T3.setTop (mkF m 38 #[.val (.ref o0), .val (.int (7 : Int32))] [(.int (5 : Int32)), (.ref o0)]))
  refine own_cv X3 hx hZ hown (notFace_of_selects (args := #[]) (mvT hZ (hw _ (own_m 36 rfl)))) (hw _ (own_m 33 rfl)) (hw _ (own_m 34 rfl)) (hw _ (own_m 36 rfl)) (hw _ (own_m 35 rfl)) (hw _ (own_m 21 rfl)) (hw _ (own_m 37 rfl)) (by decide) P4 (rm := { frames := 3, cells := 0, slots := 0, locals := 40 }) (rm_charAt_63 l Z a0 hw [] o0 y0 o1 kc0 vv0 h0 n0 Z0 P2 P3 P4 P0 P1 P5 hvv0 hb0) (by decide) (W := 0) (by decide) (by decide) (by decide) e3 (by rw [hml]; rfl) (argsL := [(.int (5 : Int32))]) (lenOf own_pd8 rfl) (rest := []) rfl rfl (Nat.le_of_eq rfl) (hb hby own_d_method_3_code_38) ?_
  intro _ T4 L4 X4 hQ4
  obtain ⟨rfl, N4q, e4⟩ := hQ4
  have N4 := Fr.app N3 N4q
  show own_Go p e below _ (T4.setTop (mkF m 41 #[.val (.ref o0), .val (.int (7 : Int32))] [(.int (101 : Int32))]))
  refine own_go (fun _ hr => XS.bipush X4.here hx rfl (hb hby own_d_method_3_code_41) (XS.icmpNo X4.here hx rfl (hb hby own_d_method_3_code_43) rfl (teq (by decide)).2 (XS.aloadN X4.here hx rfl (hb hby own_d_method_3_code_46) rfl rfl (XS.iloadN X4.here hx rfl (hb hby own_d_method_3_code_47) rfl (XS.iconst X4.here hx rfl (hb hby own_d_method_3_code_48) (XS.isub X4.here hx rfl (hb hby own_d_method_3_code_49) rfl hr)))))) ?_
  show own_Go p e below _ (T4.setTop (mkF m 50 #[.val (.ref o0), .val (.int (7 : Int32))] [(.int (6 : Int32)), (.ref o0)]))
  refine own_cv X4 hx hZ hown (notFace_of_selects (args := #[]) (mvT hZ (hw _ (own_m 36 rfl)))) (hw _ (own_m 33 rfl)) (hw _ (own_m 34 rfl)) (hw _ (own_m 36 rfl)) (hw _ (own_m 35 rfl)) (hw _ (own_m 21 rfl)) (hw _ (own_m 37 rfl)) (by decide) P4 (rm := { frames := 3, cells := 0, slots := 0, locals := 40 }) (rm_charAt_67 l Z a0 hw [] o0 y0 o1 kc0 vv0 h0 n0 Z0 P2 P3 P4 P0 P1 P5 hvv0 hb0) (by decide) (W := 0) (by decide) (by decide) (by decide) e4 (by rw [hml]; rfl) (argsL := [(.int (6 : Int32))]) (lenOf own_pd8 rfl) (rest := []) rfl rfl (Nat.le_of_eq rfl) (hb hby own_d_method_3_code_50) ?_
  intro _ T5 L5 X5 hQ5
  obtain ⟨rfl, N5q, e5⟩ := hQ5
  have N5 := Fr.app N4 N5q
  show own_Go p e below _ (T5.setTop (mkF m 53 #[.val (.ref o0), .val (.int (7 : Int32))] [(.int (110 : Int32))]))
  refine own_go (fun _ hr => XS.bipush X5.here hx rfl (hb hby own_d_method_3_code_53) (XS.icmpNo X5.here hx rfl (hb hby own_d_method_3_code_55) rfl (teq (by decide)).2 (XS.iconst X5.here hx rfl (hb hby own_d_method_3_code_58) (XS.goto X5.here hx rfl (pc0 := 59) (pc' := 63) rfl (hb hby own_d_method_3_code_59) (by decide) (by decide) hr)))) ?_
  show own_Go p e below _ (T5.setTop (mkF m 63 #[.val (.ref o0), .val (.int (7 : Int32))] [(.int (1 : Int32))]))
  exact own_retN X5 hx hlk Bd.returns (t := .boolean) (by simp) (hb hby own_d_method_3_code_63) (by decide) (by decide) ⟨rfl, N5, e5⟩
def Q_law (Z : State) (h0 : Heap) (n0 : Nat) (v : Option Value) (h : Heap) (L : List Loc) : Prop := v = some (.int 1) ∧ Fr n0 L
set_option maxRecDepth 65536 in
set_option maxHeartbeats 40000000 in
theorem rm_law (l : Launch) (Z : State) (a0 : Array Value) (hw : ∀ d ∈ tables_1, d.before a0 Z = true) (ws : List Jvm.Cond) (x0 : Int32) (r_USAGE : Addr) (r_USAGE_header : Addr) (r_USAGE_header_value : Addr) (r_GAS_PART : Addr) (r_GAS_PART_header : Addr) (r_GAS_PART_header_value : Addr) (r_TAX : Addr) (r_TAX_header : Addr) (r_TAX_header_value : Addr) (r_CHARGE : Addr) (r_CHARGE_header : Addr) (r_CHARGE_header_value : Addr) (k_USAGE_header_value : ClassId) (k_GAS_PART_header_value : ClassId) (k_TAX_header_value : ClassId) (k_CHARGE_header_value : ClassId) (i_COMPACT_STRINGS : Int32) (v_SIOOBE_FORMATTER : Value) (h0 : Heap) (n0 : Nat) (Z0 : n0 ≤ h0.size) (S_USAGE : Sta Z h0 "com/example/strict_tariff/stricttariff/pricing/Column" "USAGE" "Lcom/example/strict_tariff/stricttariff/pricing/Column;" (.ref r_USAGE)) (E_USAGE : Exa Z h0 r_USAGE "com/example/strict_tariff/stricttariff/pricing/Column") (F_USAGE_header : Fld Z h0 r_USAGE "com/example/strict_tariff/stricttariff/pricing/Column" "header" "Ljava/lang/String;" (.ref r_USAGE_header)) (E_USAGE_header : Exa Z h0 r_USAGE_header "java/lang/String") (F_USAGE_header_value : Fld Z h0 r_USAGE_header "java/lang/String" "value" "[B" (.ref r_USAGE_header_value)) (F_USAGE_header_coder : Fld Z h0 r_USAGE_header "java/lang/String" "coder" "B" (.int (0 : Int32))) (S_GAS_PART : Sta Z h0 "com/example/strict_tariff/stricttariff/pricing/Column" "GAS_PART" "Lcom/example/strict_tariff/stricttariff/pricing/Column;" (.ref r_GAS_PART)) (E_GAS_PART : Exa Z h0 r_GAS_PART "com/example/strict_tariff/stricttariff/pricing/Column") (F_GAS_PART_header : Fld Z h0 r_GAS_PART "com/example/strict_tariff/stricttariff/pricing/Column" "header" "Ljava/lang/String;" (.ref r_GAS_PART_header)) (E_GAS_PART_header : Exa Z h0 r_GAS_PART_header "java/lang/String") (F_GAS_PART_header_value : Fld Z h0 r_GAS_PART_header "java/lang/String" "value" "[B" (.ref r_GAS_PART_header_value)) (F_GAS_PART_header_coder : Fld Z h0 r_GAS_PART_header "java/lang/String" "coder" "B" (.int (0 : Int32))) (F_GAS_PART_ordinal : Fld Z h0 r_GAS_PART "java/lang/Enum" "ordinal" "I" (.int (3 : Int32))) (F_USAGE_ordinal : Fld Z h0 r_USAGE "java/lang/Enum" "ordinal" "I" (.int (0 : Int32))) (S_TAX : Sta Z h0 "com/example/strict_tariff/stricttariff/pricing/Column" "TAX" "Lcom/example/strict_tariff/stricttariff/pricing/Column;" (.ref r_TAX)) (E_TAX : Exa Z h0 r_TAX "com/example/strict_tariff/stricttariff/pricing/Column") (F_TAX_header : Fld Z h0 r_TAX "com/example/strict_tariff/stricttariff/pricing/Column" "header" "Ljava/lang/String;" (.ref r_TAX_header)) (E_TAX_header : Exa Z h0 r_TAX_header "java/lang/String") (F_TAX_header_value : Fld Z h0 r_TAX_header "java/lang/String" "value" "[B" (.ref r_TAX_header_value)) (F_TAX_header_coder : Fld Z h0 r_TAX_header "java/lang/String" "coder" "B" (.int (0 : Int32))) (F_TAX_ordinal : Fld Z h0 r_TAX "java/lang/Enum" "ordinal" "I" (.int (2 : Int32))) (S_CHARGE : Sta Z h0 "com/example/strict_tariff/stricttariff/pricing/Column" "CHARGE" "Lcom/example/strict_tariff/stricttariff/pricing/Column;" (.ref r_CHARGE)) (E_CHARGE : Exa Z h0 r_CHARGE "com/example/strict_tariff/stricttariff/pricing/Column") (F_CHARGE_header : Fld Z h0 r_CHARGE "com/example/strict_tariff/stricttariff/pricing/Column" "header" "Ljava/lang/String;" (.ref r_CHARGE_header)) (E_CHARGE_header : Exa Z h0 r_CHARGE_header "java/lang/String") (F_CHARGE_header_value : Fld Z h0 r_CHARGE_header "java/lang/String" "value" "[B" (.ref r_CHARGE_header_value)) (F_CHARGE_header_coder : Fld Z h0 r_CHARGE_header "java/lang/String" "coder" "B" (.int (0 : Int32))) (F_CHARGE_ordinal : Fld Z h0 r_CHARGE "java/lang/Enum" "ordinal" "I" (.int (1 : Int32))) (V_USAGE_header_value : Arv Z h0 r_USAGE_header_value k_USAGE_header_value .byte (8 : Int32) [(.int (117 : Int32)), (.int (115 : Int32)), (.int (97 : Int32)), (.int (103 : Int32)), (.int (101 : Int32)), (.int (95 : Int32)), (.int (109 : Int32)), (.int (51 : Int32))] (.int (0 : Int32))) (V_GAS_PART_header_value : Arv Z h0 r_GAS_PART_header_value k_GAS_PART_header_value .byte (12 : Int32) [(.int (103 : Int32)), (.int (97 : Int32)), (.int (115 : Int32)), (.int (95 : Int32)), (.int (112 : Int32)), (.int (97 : Int32)), (.int (114 : Int32)), (.int (116 : Int32)), (.int (95 : Int32)), (.int (121 : Int32)), (.int (101 : Int32)), (.int (110 : Int32))] (.int (0 : Int32))) (V_TAX_header_value : Arv Z h0 r_TAX_header_value k_TAX_header_value .byte (7 : Int32) [(.int (116 : Int32)), (.int (97 : Int32)), (.int (120 : Int32)), (.int (95 : Int32)), (.int (121 : Int32)), (.int (101 : Int32)), (.int (110 : Int32))] (.int (0 : Int32))) (V_CHARGE_header_value : Arv Z h0 r_CHARGE_header_value k_CHARGE_header_value .byte (10 : Int32) [(.int (99 : Int32)), (.int (104 : Int32)), (.int (97 : Int32)), (.int (114 : Int32)), (.int (103 : Int32)), (.int (101 : Int32)), (.int (95 : Int32)), (.int (121 : Int32)), (.int (101 : Int32)), (.int (110 : Int32))] (.int (0 : Int32))) (S_COMPACT_STRINGS : Sta Z h0 "java/lang/String" "COMPACT_STRINGS" "Z" (.int i_COMPACT_STRINGS)) (S_SIOOBE_FORMATTER : Sta Z h0 "jdk/internal/util/Preconditions" "SIOOBE_FORMATTER" "Ljava/util/function/BiFunction;" v_SIOOBE_FORMATTER) (hs_COMPACT_STRINGS : ¬ (i_COMPACT_STRINGS = (0 : Int32))) (hv_SIOOBE_FORMATTER : v_SIOOBE_FORMATTER.isRef = true) (ne_r_GAS_PART_r_USAGE : r_GAS_PART ≠ r_USAGE) (ne_r_GAS_PART_r_TAX : r_GAS_PART ≠ r_TAX) (ne_r_GAS_PART_r_CHARGE : r_GAS_PART ≠ r_CHARGE) (ne_r_USAGE_r_TAX : r_USAGE ≠ r_TAX) (ne_r_USAGE_r_CHARGE : r_USAGE ≠ r_CHARGE) (ne_r_TAX_r_CHARGE : r_TAX ≠ r_CHARGE) :
    MetFree l x (head1 (Jvm.Cond.code x code maxLocals ret :: ws) room_1) (fun aA U => aA = #[(.int x0)] ∧ Z.Warmed39 U.vm ∧ U.heap = h0) (fun _ _ _ _ _ => True) (fun _ U o U' => ∃ v L, o = .returned v ∧ Q_law Z h0 n0 v U'.heap L ∧ FrameEnd U o U' L room_1.cells room_1.slots) := by
  refine MetFree.of_bodySF (plainFor_of_name own_pn_com_example_strict_tariff_stricttariff_pricing_ColumnIsAmountPinLaw) hisR ?_
  intro p e s m args below meth c s₁ Bd hml0 hP hK
  obtain ⟨rfl, hZ, hh⟩ := hP
  have hx := Bd.exec
  have hby := Bd.bytes
  have hlk : meth.locks = false := BodyLoose.notSynchronized Bd
  have hml : c.maxLocals = 5 := hml0
  have hown : s.vm.findClass "com/example/strict_tariff/stricttariff/pricing/ColumnIsAmountPinLaw" = some m.cls := findClass_of_methodNamed Bd.named
  have hnm := (name_of_methodNamed Bd.named Bd.method).1
  have X0 : Stand p l e room_1 s m #[(.int x0)] below meth c s₁ [] 0 0 := Stand.of_body Bd
  have e0 : s₁.heap = h0 := by rw [← hh, Bd.state]; rfl
  have N0 := Fr.nil n0
  show own_Go p e below (own_K s (Q_law Z h0 n0) room_1.cells room_1.slots) (s₁.setTop (entryFrame m #[(.int x0)] maxLocals))
  rw [(by first | (simp [entryFrame, mkF, argsToLocals, Value.category, maxLocals]; done) | rfl : entryFrame m #[(.int x0)] maxLocals = mkF m 0 #[.val (.int x0), .unset, .unset, .unset, .unset] [])]
  show own_Go p e below _ (s₁.setTop (mkF m 0 #[.val (.int x0), .unset, .unset, .unset, .unset] []))
  refine own_go (fun _ hr => XS.iloadN X0.here hx rfl (hb hby at_0) rfl (XS.iconst X0.here hx rfl (hb hby at_1) (XS.iand X0.here hx rfl (hb hby at_2) rfl (XS.istoreN X0.here hx rfl (hb hby at_3) rfl (l' := #[.val (.int x0), .val (.int (x0 &&& (3 : Int32))), .unset, .unset, .unset]) rfl hr)))) ?_
  show own_Go p e below _ (s₁.setTop (mkF m 4 #[.val (.int x0), .val (.int (x0 &&& (3 : Int32))), .unset, .unset, .unset] []))
  rcases Classical.em ((x0 &&& (3 : Int32)) = (0 : Int32)) with c1 | c1
  · rw [c1]
    show own_Go p e below _ (s₁.setTop (mkF m 4 #[.val (.int x0), .val (.int (0 : Int32)), .unset, .unset, .unset] []))
    refine own_go (fun _ hr => XS.iloadN X0.here hx rfl (hb hby at_4) rfl hr) ?_
    show own_Go p e below _ (s₁.setTop (mkF m 5 #[.val (.int x0), .val (.int (0 : Int32)), .unset, .unset, .unset] [(.int (0 : Int32))]))
    refine own_cs X0 hx hZ hown (hw _ (own_m 0 rfl)) (hw _ (own_m 1 rfl)) (hw _ (own_m 2 rfl)) (hw _ (own_m 3 rfl)) (by decide) (rm := { frames := 0, cells := 0, slots := 0, locals := 0 }) (rm_pick_0 l Z a0 hw [] r_USAGE h0 n0 Z0 S_USAGE) (by decide) (W := 0) (by decide) (by decide) (by decide) e0 (by rw [hml]; rfl) (argsL := [(.int (0 : Int32))]) (lenOf own_pd0 rfl) (rest := []) rfl rfl (Nat.le_of_eq rfl) (hb hby at_5) ?_
    intro _ T2 L2 X2 hQ2
    obtain ⟨rfl, N2q, e2⟩ := hQ2
    have N2 := Fr.app N0 N2q
    show own_Go p e below _ (T2.setTop (mkF m 8 #[.val (.int x0), .val (.int (0 : Int32)), .unset, .unset, .unset] [(.ref r_USAGE)]))
    refine own_go (fun _ hr => XS.astoreN X2.here hx rfl (hb hby at_8) rfl rfl (l' := #[.val (.int x0), .val (.int (0 : Int32)), .val (.ref r_USAGE), .unset, .unset]) rfl (XS.iloadN X2.here hx rfl (hb hby at_9) rfl (XS.ifYes X2.here hx rfl (pc0 := 10) (pc' := 17) rfl (hb hby at_10) rfl ((if0 _ _).trans (teq (by decide)).1) (by decide) (by decide) (XS.iconst X2.here hx rfl (hb hby at_17) (XS.istoreN X2.here hx rfl (hb hby at_18) rfl (l' := #[.val (.int x0), .val (.int (0 : Int32)), .val (.ref r_USAGE), .val (.int (0 : Int32)), .unset]) rfl (XS.aloadN X2.here hx rfl (hb hby at_19) rfl rfl hr)))))) ?_
    show own_Go p e below _ (T2.setTop (mkF m 20 #[.val (.int x0), .val (.int (0 : Int32)), .val (.ref r_USAGE), .val (.int (0 : Int32)), .unset] [(.ref r_USAGE)]))
    refine own_cv X2 hx hZ hown (notFace_of_selects (args := #[]) (mvT hZ (hw _ (own_m 10 rfl)))) (hw _ (own_m 7 rfl)) (hw _ (own_m 8 rfl)) (hw _ (own_m 10 rfl)) (hw _ (own_m 9 rfl)) (hw _ (own_m 5 rfl)) (hw _ (own_m 11 rfl)) (by decide) E_USAGE (rm := { frames := 0, cells := 0, slots := 0, locals := 0 }) (rm_header_1 l Z a0 hw [] r_USAGE r_USAGE_header h0 n0 Z0 F_USAGE_header) (by decide) (W := 0) (by decide) (by decide) (by decide) e2 (by rw [hml]; rfl) (argsL := []) (lenOf own_pd1 rfl) (rest := []) rfl rfl (Nat.le_of_eq rfl) (hb hby at_20) ?_
    intro _ T3 L3 X3 hQ3
    obtain ⟨rfl, N3q, e3⟩ := hQ3
    have N3 := Fr.app N2 N3q
    show own_Go p e below _ (T3.setTop (mkF m 23 #[.val (.int x0), .val (.int (0 : Int32)), .val (.ref r_USAGE), .val (.int (0 : Int32)), .unset] [(.ref r_USAGE_header)]))
    refine own_cs X3 hx hZ hown (hw _ (own_m 14 rfl)) (hw _ (own_m 15 rfl)) (hw _ (own_m 2 rfl)) (hw _ (own_m 16 rfl)) (by decide) (rm := { frames := 4, cells := 0, slots := 0, locals := 53 }) (rm_endsInYen_9 l Z a0 hw [] r_USAGE_header r_USAGE_header_value k_USAGE_header_value i_COMPACT_STRINGS v_SIOOBE_FORMATTER h0 n0 Z0 F_USAGE_header_value V_USAGE_header_value S_COMPACT_STRINGS F_USAGE_header_coder E_USAGE_header S_SIOOBE_FORMATTER hv_SIOOBE_FORMATTER hs_COMPACT_STRINGS) (by decide) (W := 0) (by decide) (by decide) (by decide) e3 (by rw [hml]; rfl) (argsL := [(.ref r_USAGE_header)]) (lenOf own_pd9 rfl) (rest := []) rfl rfl (Nat.le_of_eq rfl) (hb hby at_23) ?_
    intro _ T4 L4 X4 hQ4
    obtain ⟨rfl, N4q, e4⟩ := hQ4
    have N4 := Fr.app N3 N4q
    show own_Go p e below _ (T4.setTop (mkF m 26 #[.val (.int x0), .val (.int (0 : Int32)), .val (.ref r_USAGE), .val (.int (0 : Int32)), .unset] [(.int (0 : Int32))]))
    refine own_go (fun _ hr => XS.istore X4.here hx rfl (hb hby at_26) rfl (l' := #[.val (.int x0), .val (.int (0 : Int32)), .val (.ref r_USAGE), .val (.int (0 : Int32)), .val (.int (0 : Int32))]) rfl (XS.aloadN X4.here hx rfl (hb hby at_28) rfl rfl hr)) ?_
    show own_Go p e below _ (T4.setTop (mkF m 29 #[.val (.int x0), .val (.int (0 : Int32)), .val (.ref r_USAGE), .val (.int (0 : Int32)), .val (.int (0 : Int32))] [(.ref r_USAGE)]))
    refine own_cv X4 hx hZ hown (notFace_of_selects (args := #[]) (mvT hZ (hw _ (own_m 58 rfl)))) (hw _ (own_m 55 rfl)) (hw _ (own_m 56 rfl)) (hw _ (own_m 58 rfl)) (hw _ (own_m 57 rfl)) (hw _ (own_m 5 rfl)) (hw _ (own_m 59 rfl)) (by decide) E_USAGE (rm := { frames := 0, cells := 0, slots := 0, locals := 0 }) (rm_isAmount_10 l Z a0 hw [] r_USAGE h0 n0 Z0 S_USAGE) (by decide) (W := 0) (by decide) (by decide) (by decide) e4 (by rw [hml]; rfl) (argsL := []) (lenOf own_pd4 rfl) (rest := []) rfl rfl (Nat.le_of_eq rfl) (hb hby at_29) ?_
    intro _ T5 L5 X5 hQ5
    obtain ⟨rfl, N5q, e5⟩ := hQ5
    have N5 := Fr.app N4 N5q
    show own_Go p e below _ (T5.setTop (mkF m 32 #[.val (.int x0), .val (.int (0 : Int32)), .val (.ref r_USAGE), .val (.int (0 : Int32)), .val (.int (0 : Int32))] [(.int (0 : Int32))]))
    refine own_go (fun _ hr => XS.iloadN X5.here hx rfl (hb hby at_32) rfl (XS.icmpNo X5.here hx rfl (hb hby at_33) rfl (teq (by decide)).2 (XS.iload X5.here hx rfl (hb hby at_36) rfl (XS.iloadN X5.here hx rfl (hb hby at_38) rfl (XS.icmpNo X5.here hx rfl (hb hby at_39) rfl (teq (by decide)).2 (XS.iconst X5.here hx rfl (hb hby at_42) (XS.goto X5.here hx rfl (pc0 := 43) (pc' := 47) rfl (hb hby at_43) (by decide) (by decide) hr))))))) ?_
    show own_Go p e below _ (T5.setTop (mkF m 47 #[.val (.int x0), .val (.int (0 : Int32)), .val (.ref r_USAGE), .val (.int (0 : Int32)), .val (.int (0 : Int32))] [(.int (1 : Int32))]))
    exact own_retN X5 hx hlk Bd.returns (t := .boolean) (by simp) (hb hby at_47) (by decide) (by decide) ⟨rfl, N5⟩
  rcases Classical.em ((x0 &&& (3 : Int32)) = (3 : Int32)) with c6 | c6
  · rw [c6]
    show own_Go p e below _ (s₁.setTop (mkF m 4 #[.val (.int x0), .val (.int (3 : Int32)), .unset, .unset, .unset] []))
    refine own_go (fun _ hr => XS.iloadN X0.here hx rfl (hb hby at_4) rfl hr) ?_
    show own_Go p e below _ (s₁.setTop (mkF m 5 #[.val (.int x0), .val (.int (3 : Int32)), .unset, .unset, .unset] [(.int (3 : Int32))]))
    refine own_cs X0 hx hZ hown (hw _ (own_m 0 rfl)) (hw _ (own_m 1 rfl)) (hw _ (own_m 2 rfl)) (hw _ (own_m 3 rfl)) (by decide) (rm := { frames := 0, cells := 0, slots := 0, locals := 0 }) (rm_pick_11 l Z a0 hw [] r_GAS_PART h0 n0 Z0 S_GAS_PART) (by decide) (W := 0) (by decide) (by decide) (by decide) e0 (by rw [hml]; rfl) (argsL := [(.int (3 : Int32))]) (lenOf own_pd0 rfl) (rest := []) rfl rfl (Nat.le_of_eq rfl) (hb hby at_5) ?_
    intro _ T7 L7 X7 hQ7
    obtain ⟨rfl, N7q, e7⟩ := hQ7
    have N7 := Fr.app N0 N7q
    show own_Go p e below _ (T7.setTop (mkF m 8 #[.val (.int x0), .val (.int (3 : Int32)), .unset, .unset, .unset] [(.ref r_GAS_PART)]))
    refine own_go (fun _ hr => XS.astoreN X7.here hx rfl (hb hby at_8) rfl rfl (l' := #[.val (.int x0), .val (.int (3 : Int32)), .val (.ref r_GAS_PART), .unset, .unset]) rfl (XS.iloadN X7.here hx rfl (hb hby at_9) rfl (XS.ifNo X7.here hx rfl (hb hby at_10) rfl ((if0 _ _).trans (feq (by decide)).1) (XS.iconst X7.here hx rfl (hb hby at_13) (XS.goto X7.here hx rfl (pc0 := 14) (pc' := 18) rfl (hb hby at_14) (by decide) (by decide) (XS.istoreN X7.here hx rfl (hb hby at_18) rfl (l' := #[.val (.int x0), .val (.int (3 : Int32)), .val (.ref r_GAS_PART), .val (.int (1 : Int32)), .unset]) rfl (XS.aloadN X7.here hx rfl (hb hby at_19) rfl rfl hr))))))) ?_
    show own_Go p e below _ (T7.setTop (mkF m 20 #[.val (.int x0), .val (.int (3 : Int32)), .val (.ref r_GAS_PART), .val (.int (1 : Int32)), .unset] [(.ref r_GAS_PART)]))
    refine own_cv X7 hx hZ hown (notFace_of_selects (args := #[]) (mvT hZ (hw _ (own_m 10 rfl)))) (hw _ (own_m 7 rfl)) (hw _ (own_m 8 rfl)) (hw _ (own_m 10 rfl)) (hw _ (own_m 9 rfl)) (hw _ (own_m 5 rfl)) (hw _ (own_m 11 rfl)) (by decide) E_GAS_PART (rm := { frames := 0, cells := 0, slots := 0, locals := 0 }) (rm_header_1 l Z a0 hw [] r_GAS_PART r_GAS_PART_header h0 n0 Z0 F_GAS_PART_header) (by decide) (W := 0) (by decide) (by decide) (by decide) e7 (by rw [hml]; rfl) (argsL := []) (lenOf own_pd1 rfl) (rest := []) rfl rfl (Nat.le_of_eq rfl) (hb hby at_20) ?_
    intro _ T8 L8 X8 hQ8
    obtain ⟨rfl, N8q, e8⟩ := hQ8
    have N8 := Fr.app N7 N8q
    show own_Go p e below _ (T8.setTop (mkF m 23 #[.val (.int x0), .val (.int (3 : Int32)), .val (.ref r_GAS_PART), .val (.int (1 : Int32)), .unset] [(.ref r_GAS_PART_header)]))
    refine own_cs X8 hx hZ hown (hw _ (own_m 14 rfl)) (hw _ (own_m 15 rfl)) (hw _ (own_m 2 rfl)) (hw _ (own_m 16 rfl)) (by decide) (rm := { frames := 4, cells := 0, slots := 0, locals := 53 }) (rm_endsInYen_29 l Z a0 hw [] r_GAS_PART_header r_GAS_PART_header_value k_GAS_PART_header_value i_COMPACT_STRINGS v_SIOOBE_FORMATTER h0 n0 Z0 F_GAS_PART_header_value V_GAS_PART_header_value S_COMPACT_STRINGS F_GAS_PART_header_coder E_GAS_PART_header S_SIOOBE_FORMATTER hv_SIOOBE_FORMATTER hs_COMPACT_STRINGS) (by decide) (W := 0) (by decide) (by decide) (by decide) e8 (by rw [hml]; rfl) (argsL := [(.ref r_GAS_PART_header)]) (lenOf own_pd9 rfl) (rest := []) rfl rfl (Nat.le_of_eq rfl) (hb hby at_23) ?_
    intro _ T9 L9 X9 hQ9
    obtain ⟨rfl, N9q, e9⟩ := hQ9
    have N9 := Fr.app N8 N9q
    show own_Go p e below _ (T9.setTop (mkF m 26 #[.val (.int x0), .val (.int (3 : Int32)), .val (.ref r_GAS_PART), .val (.int (1 : Int32)), .unset] [(.int (1 : Int32))]))
    refine own_go (fun _ hr => XS.istore X9.here hx rfl (hb hby at_26) rfl (l' := #[.val (.int x0), .val (.int (3 : Int32)), .val (.ref r_GAS_PART), .val (.int (1 : Int32)), .val (.int (1 : Int32))]) rfl (XS.aloadN X9.here hx rfl (hb hby at_28) rfl rfl hr)) ?_
    show own_Go p e below _ (T9.setTop (mkF m 29 #[.val (.int x0), .val (.int (3 : Int32)), .val (.ref r_GAS_PART), .val (.int (1 : Int32)), .val (.int (1 : Int32))] [(.ref r_GAS_PART)]))
    refine own_cv X9 hx hZ hown (notFace_of_selects (args := #[]) (mvT hZ (hw _ (own_m 58 rfl)))) (hw _ (own_m 55 rfl)) (hw _ (own_m 56 rfl)) (hw _ (own_m 58 rfl)) (hw _ (own_m 57 rfl)) (hw _ (own_m 5 rfl)) (hw _ (own_m 59 rfl)) (by decide) E_GAS_PART (rm := { frames := 0, cells := 0, slots := 0, locals := 0 }) (rm_isAmount_30 l Z a0 hw [] r_GAS_PART r_USAGE h0 n0 Z0 S_USAGE ne_r_GAS_PART_r_USAGE) (by decide) (W := 0) (by decide) (by decide) (by decide) e9 (by rw [hml]; rfl) (argsL := []) (lenOf own_pd4 rfl) (rest := []) rfl rfl (Nat.le_of_eq rfl) (hb hby at_29) ?_
    intro _ T10 L10 X10 hQ10
    obtain ⟨rfl, N10q, e10⟩ := hQ10
    have N10 := Fr.app N9 N10q
    show own_Go p e below _ (T10.setTop (mkF m 32 #[.val (.int x0), .val (.int (3 : Int32)), .val (.ref r_GAS_PART), .val (.int (1 : Int32)), .val (.int (1 : Int32))] [(.int (1 : Int32))]))
    refine own_go (fun _ hr => XS.iloadN X10.here hx rfl (hb hby at_32) rfl (XS.icmpNo X10.here hx rfl (hb hby at_33) rfl (teq (by decide)).2 (XS.iload X10.here hx rfl (hb hby at_36) rfl (XS.iloadN X10.here hx rfl (hb hby at_38) rfl (XS.icmpNo X10.here hx rfl (hb hby at_39) rfl (teq (by decide)).2 (XS.iconst X10.here hx rfl (hb hby at_42) (XS.goto X10.here hx rfl (pc0 := 43) (pc' := 47) rfl (hb hby at_43) (by decide) (by decide) hr))))))) ?_
    show own_Go p e below _ (T10.setTop (mkF m 47 #[.val (.int x0), .val (.int (3 : Int32)), .val (.ref r_GAS_PART), .val (.int (1 : Int32)), .val (.int (1 : Int32))] [(.int (1 : Int32))]))
    exact own_retN X10 hx hlk Bd.returns (t := .boolean) (by simp) (hb hby at_47) (by decide) (by decide) ⟨rfl, N10⟩
  rcases Classical.em ((x0 &&& (3 : Int32)) = (1 : Int32)) with c11 | c11
  · rw [c11]
    show own_Go p e below _ (s₁.setTop (mkF m 4 #[.val (.int x0), .val (.int (1 : Int32)), .unset, .unset, .unset] []))
    refine own_go (fun _ hr => XS.iloadN X0.here hx rfl (hb hby at_4) rfl hr) ?_
    show own_Go p e below _ (s₁.setTop (mkF m 5 #[.val (.int x0), .val (.int (1 : Int32)), .unset, .unset, .unset] [(.int (1 : Int32))]))
    refine own_cs X0 hx hZ hown (hw _ (own_m 0 rfl)) (hw _ (own_m 1 rfl)) (hw _ (own_m 2 rfl)) (hw _ (own_m 3 rfl)) (by decide) (rm := { frames := 0, cells := 0, slots := 0, locals := 0 }) (rm_pick_31 l Z a0 hw [] r_CHARGE h0 n0 Z0 S_CHARGE) (by decide) (W := 0) (by decide) (by decide) (by decide) e0 (by rw [hml]; rfl) (argsL := [(.int (1 : Int32))]) (lenOf own_pd0 rfl) (rest := []) rfl rfl (Nat.le_of_eq rfl) (hb hby at_5) ?_
    intro _ T12 L12 X12 hQ12
    obtain ⟨rfl, N12q, e12⟩ := hQ12
    have N12 := Fr.app N0 N12q
    show own_Go p e below _ (T12.setTop (mkF m 8 #[.val (.int x0), .val (.int (1 : Int32)), .unset, .unset, .unset] [(.ref r_CHARGE)]))
    refine own_go (fun _ hr => XS.astoreN X12.here hx rfl (hb hby at_8) rfl rfl (l' := #[.val (.int x0), .val (.int (1 : Int32)), .val (.ref r_CHARGE), .unset, .unset]) rfl (XS.iloadN X12.here hx rfl (hb hby at_9) rfl (XS.ifNo X12.here hx rfl (hb hby at_10) rfl ((if0 _ _).trans (feq (by decide)).1) (XS.iconst X12.here hx rfl (hb hby at_13) (XS.goto X12.here hx rfl (pc0 := 14) (pc' := 18) rfl (hb hby at_14) (by decide) (by decide) (XS.istoreN X12.here hx rfl (hb hby at_18) rfl (l' := #[.val (.int x0), .val (.int (1 : Int32)), .val (.ref r_CHARGE), .val (.int (1 : Int32)), .unset]) rfl (XS.aloadN X12.here hx rfl (hb hby at_19) rfl rfl hr))))))) ?_
    show own_Go p e below _ (T12.setTop (mkF m 20 #[.val (.int x0), .val (.int (1 : Int32)), .val (.ref r_CHARGE), .val (.int (1 : Int32)), .unset] [(.ref r_CHARGE)]))
    refine own_cv X12 hx hZ hown (notFace_of_selects (args := #[]) (mvT hZ (hw _ (own_m 10 rfl)))) (hw _ (own_m 7 rfl)) (hw _ (own_m 8 rfl)) (hw _ (own_m 10 rfl)) (hw _ (own_m 9 rfl)) (hw _ (own_m 5 rfl)) (hw _ (own_m 11 rfl)) (by decide) E_CHARGE (rm := { frames := 0, cells := 0, slots := 0, locals := 0 }) (rm_header_1 l Z a0 hw [] r_CHARGE r_CHARGE_header h0 n0 Z0 F_CHARGE_header) (by decide) (W := 0) (by decide) (by decide) (by decide) e12 (by rw [hml]; rfl) (argsL := []) (lenOf own_pd1 rfl) (rest := []) rfl rfl (Nat.le_of_eq rfl) (hb hby at_20) ?_
    intro _ T13 L13 X13 hQ13
    obtain ⟨rfl, N13q, e13⟩ := hQ13
    have N13 := Fr.app N12 N13q
    show own_Go p e below _ (T13.setTop (mkF m 23 #[.val (.int x0), .val (.int (1 : Int32)), .val (.ref r_CHARGE), .val (.int (1 : Int32)), .unset] [(.ref r_CHARGE_header)]))
    refine own_cs X13 hx hZ hown (hw _ (own_m 14 rfl)) (hw _ (own_m 15 rfl)) (hw _ (own_m 2 rfl)) (hw _ (own_m 16 rfl)) (by decide) (rm := { frames := 4, cells := 0, slots := 0, locals := 53 }) (rm_endsInYen_49 l Z a0 hw [] r_CHARGE_header r_CHARGE_header_value k_CHARGE_header_value i_COMPACT_STRINGS v_SIOOBE_FORMATTER h0 n0 Z0 F_CHARGE_header_value V_CHARGE_header_value S_COMPACT_STRINGS F_CHARGE_header_coder E_CHARGE_header S_SIOOBE_FORMATTER hv_SIOOBE_FORMATTER hs_COMPACT_STRINGS) (by decide) (W := 0) (by decide) (by decide) (by decide) e13 (by rw [hml]; rfl) (argsL := [(.ref r_CHARGE_header)]) (lenOf own_pd9 rfl) (rest := []) rfl rfl (Nat.le_of_eq rfl) (hb hby at_23) ?_
    intro _ T14 L14 X14 hQ14
    obtain ⟨rfl, N14q, e14⟩ := hQ14
    have N14 := Fr.app N13 N14q
    show own_Go p e below _ (T14.setTop (mkF m 26 #[.val (.int x0), .val (.int (1 : Int32)), .val (.ref r_CHARGE), .val (.int (1 : Int32)), .unset] [(.int (1 : Int32))]))
    refine own_go (fun _ hr => XS.istore X14.here hx rfl (hb hby at_26) rfl (l' := #[.val (.int x0), .val (.int (1 : Int32)), .val (.ref r_CHARGE), .val (.int (1 : Int32)), .val (.int (1 : Int32))]) rfl (XS.aloadN X14.here hx rfl (hb hby at_28) rfl rfl hr)) ?_
    show own_Go p e below _ (T14.setTop (mkF m 29 #[.val (.int x0), .val (.int (1 : Int32)), .val (.ref r_CHARGE), .val (.int (1 : Int32)), .val (.int (1 : Int32))] [(.ref r_CHARGE)]))
    refine own_cv X14 hx hZ hown (notFace_of_selects (args := #[]) (mvT hZ (hw _ (own_m 58 rfl)))) (hw _ (own_m 55 rfl)) (hw _ (own_m 56 rfl)) (hw _ (own_m 58 rfl)) (hw _ (own_m 57 rfl)) (hw _ (own_m 5 rfl)) (hw _ (own_m 59 rfl)) (by decide) E_CHARGE (rm := { frames := 0, cells := 0, slots := 0, locals := 0 }) (rm_isAmount_30 l Z a0 hw [] r_CHARGE r_USAGE h0 n0 Z0 S_USAGE (Ne.symm ne_r_USAGE_r_CHARGE)) (by decide) (W := 0) (by decide) (by decide) (by decide) e14 (by rw [hml]; rfl) (argsL := []) (lenOf own_pd4 rfl) (rest := []) rfl rfl (Nat.le_of_eq rfl) (hb hby at_29) ?_
    intro _ T15 L15 X15 hQ15
    obtain ⟨rfl, N15q, e15⟩ := hQ15
    have N15 := Fr.app N14 N15q
    show own_Go p e below _ (T15.setTop (mkF m 32 #[.val (.int x0), .val (.int (1 : Int32)), .val (.ref r_CHARGE), .val (.int (1 : Int32)), .val (.int (1 : Int32))] [(.int (1 : Int32))]))
    refine own_go (fun _ hr => XS.iloadN X15.here hx rfl (hb hby at_32) rfl (XS.icmpNo X15.here hx rfl (hb hby at_33) rfl (teq (by decide)).2 (XS.iload X15.here hx rfl (hb hby at_36) rfl (XS.iloadN X15.here hx rfl (hb hby at_38) rfl (XS.icmpNo X15.here hx rfl (hb hby at_39) rfl (teq (by decide)).2 (XS.iconst X15.here hx rfl (hb hby at_42) (XS.goto X15.here hx rfl (pc0 := 43) (pc' := 47) rfl (hb hby at_43) (by decide) (by decide) hr))))))) ?_
    show own_Go p e below _ (T15.setTop (mkF m 47 #[.val (.int x0), .val (.int (1 : Int32)), .val (.ref r_CHARGE), .val (.int (1 : Int32)), .val (.int (1 : Int32))] [(.int (1 : Int32))]))
    exact own_retN X15 hx hlk Bd.returns (t := .boolean) (by simp) (hb hby at_47) (by decide) (by decide) ⟨rfl, N15⟩
  have c16 : (x0 &&& (3 : Int32)) = (2 : Int32) := by
    have q0 := rng32 x0
    have q1 := c_mask x0 (3 : Int32) 2 (by decide) (by decide)
    have p0 := c1
    have p1 := c6
    have p2 := c11
    simp only [true_implies, Int32.lt_iff_toInt_lt, ← Int32.toInt_inj, Int32.reduceToInt, Int64.lt_iff_toInt_lt, ← Int64.toInt_inj, Int64.reduceToInt] at q0 q1 p0 p1 p2 ⊢
    omega
  rw [c16]
  show own_Go p e below _ (s₁.setTop (mkF m 4 #[.val (.int x0), .val (.int (2 : Int32)), .unset, .unset, .unset] []))
  refine own_go (fun _ hr => XS.iloadN X0.here hx rfl (hb hby at_4) rfl hr) ?_
  show own_Go p e below _ (s₁.setTop (mkF m 5 #[.val (.int x0), .val (.int (2 : Int32)), .unset, .unset, .unset] [(.int (2 : Int32))]))
  refine own_cs X0 hx hZ hown (hw _ (own_m 0 rfl)) (hw _ (own_m 1 rfl)) (hw _ (own_m 2 rfl)) (hw _ (own_m 3 rfl)) (by decide) (rm := { frames := 0, cells := 0, slots := 0, locals := 0 }) (rm_pick_50 l Z a0 hw [] r_TAX h0 n0 Z0 S_TAX) (by decide) (W := 0) (by decide) (by decide) (by decide) e0 (by rw [hml]; rfl) (argsL := [(.int (2 : Int32))]) (lenOf own_pd0 rfl) (rest := []) rfl rfl (Nat.le_of_eq rfl) (hb hby at_5) ?_
  intro _ T17 L17 X17 hQ17
  obtain ⟨rfl, N17q, e17⟩ := hQ17
  have N17 := Fr.app N0 N17q
  show own_Go p e below _ (T17.setTop (mkF m 8 #[.val (.int x0), .val (.int (2 : Int32)), .unset, .unset, .unset] [(.ref r_TAX)]))
  refine own_go (fun _ hr => XS.astoreN X17.here hx rfl (hb hby at_8) rfl rfl (l' := #[.val (.int x0), .val (.int (2 : Int32)), .val (.ref r_TAX), .unset, .unset]) rfl (XS.iloadN X17.here hx rfl (hb hby at_9) rfl (XS.ifNo X17.here hx rfl (hb hby at_10) rfl ((if0 _ _).trans (feq (by decide)).1) (XS.iconst X17.here hx rfl (hb hby at_13) (XS.goto X17.here hx rfl (pc0 := 14) (pc' := 18) rfl (hb hby at_14) (by decide) (by decide) (XS.istoreN X17.here hx rfl (hb hby at_18) rfl (l' := #[.val (.int x0), .val (.int (2 : Int32)), .val (.ref r_TAX), .val (.int (1 : Int32)), .unset]) rfl (XS.aloadN X17.here hx rfl (hb hby at_19) rfl rfl hr))))))) ?_
  show own_Go p e below _ (T17.setTop (mkF m 20 #[.val (.int x0), .val (.int (2 : Int32)), .val (.ref r_TAX), .val (.int (1 : Int32)), .unset] [(.ref r_TAX)]))
  refine own_cv X17 hx hZ hown (notFace_of_selects (args := #[]) (mvT hZ (hw _ (own_m 10 rfl)))) (hw _ (own_m 7 rfl)) (hw _ (own_m 8 rfl)) (hw _ (own_m 10 rfl)) (hw _ (own_m 9 rfl)) (hw _ (own_m 5 rfl)) (hw _ (own_m 11 rfl)) (by decide) E_TAX (rm := { frames := 0, cells := 0, slots := 0, locals := 0 }) (rm_header_1 l Z a0 hw [] r_TAX r_TAX_header h0 n0 Z0 F_TAX_header) (by decide) (W := 0) (by decide) (by decide) (by decide) e17 (by rw [hml]; rfl) (argsL := []) (lenOf own_pd1 rfl) (rest := []) rfl rfl (Nat.le_of_eq rfl) (hb hby at_20) ?_
  intro _ T18 L18 X18 hQ18
  obtain ⟨rfl, N18q, e18⟩ := hQ18
  have N18 := Fr.app N17 N18q
  show own_Go p e below _ (T18.setTop (mkF m 23 #[.val (.int x0), .val (.int (2 : Int32)), .val (.ref r_TAX), .val (.int (1 : Int32)), .unset] [(.ref r_TAX_header)]))
  refine own_cs X18 hx hZ hown (hw _ (own_m 14 rfl)) (hw _ (own_m 15 rfl)) (hw _ (own_m 2 rfl)) (hw _ (own_m 16 rfl)) (by decide) (rm := { frames := 4, cells := 0, slots := 0, locals := 53 }) (rm_endsInYen_68 l Z a0 hw [] r_TAX_header r_TAX_header_value k_TAX_header_value i_COMPACT_STRINGS v_SIOOBE_FORMATTER h0 n0 Z0 F_TAX_header_value V_TAX_header_value S_COMPACT_STRINGS F_TAX_header_coder E_TAX_header S_SIOOBE_FORMATTER hv_SIOOBE_FORMATTER hs_COMPACT_STRINGS) (by decide) (W := 0) (by decide) (by decide) (by decide) e18 (by rw [hml]; rfl) (argsL := [(.ref r_TAX_header)]) (lenOf own_pd9 rfl) (rest := []) rfl rfl (Nat.le_of_eq rfl) (hb hby at_23) ?_
  intro _ T19 L19 X19 hQ19
  obtain ⟨rfl, N19q, e19⟩ := hQ19
  have N19 := Fr.app N18 N19q
  show own_Go p e below _ (T19.setTop (mkF m 26 #[.val (.int x0), .val (.int (2 : Int32)), .val (.ref r_TAX), .val (.int (1 : Int32)), .unset] [(.int (1 : Int32))]))
  refine own_go (fun _ hr => XS.istore X19.here hx rfl (hb hby at_26) rfl (l' := #[.val (.int x0), .val (.int (2 : Int32)), .val (.ref r_TAX), .val (.int (1 : Int32)), .val (.int (1 : Int32))]) rfl (XS.aloadN X19.here hx rfl (hb hby at_28) rfl rfl hr)) ?_
  show own_Go p e below _ (T19.setTop (mkF m 29 #[.val (.int x0), .val (.int (2 : Int32)), .val (.ref r_TAX), .val (.int (1 : Int32)), .val (.int (1 : Int32))] [(.ref r_TAX)]))
  refine own_cv X19 hx hZ hown (notFace_of_selects (args := #[]) (mvT hZ (hw _ (own_m 58 rfl)))) (hw _ (own_m 55 rfl)) (hw _ (own_m 56 rfl)) (hw _ (own_m 58 rfl)) (hw _ (own_m 57 rfl)) (hw _ (own_m 5 rfl)) (hw _ (own_m 59 rfl)) (by decide) E_TAX (rm := { frames := 0, cells := 0, slots := 0, locals := 0 }) (rm_isAmount_30 l Z a0 hw [] r_TAX r_USAGE h0 n0 Z0 S_USAGE (Ne.symm ne_r_USAGE_r_TAX)) (by decide) (W := 0) (by decide) (by decide) (by decide) e19 (by rw [hml]; rfl) (argsL := []) (lenOf own_pd4 rfl) (rest := []) rfl rfl (Nat.le_of_eq rfl) (hb hby at_29) ?_
  intro _ T20 L20 X20 hQ20
  obtain ⟨rfl, N20q, e20⟩ := hQ20
  have N20 := Fr.app N19 N20q
  show own_Go p e below _ (T20.setTop (mkF m 32 #[.val (.int x0), .val (.int (2 : Int32)), .val (.ref r_TAX), .val (.int (1 : Int32)), .val (.int (1 : Int32))] [(.int (1 : Int32))]))
  refine own_go (fun _ hr => XS.iloadN X20.here hx rfl (hb hby at_32) rfl (XS.icmpNo X20.here hx rfl (hb hby at_33) rfl (teq (by decide)).2 (XS.iload X20.here hx rfl (hb hby at_36) rfl (XS.iloadN X20.here hx rfl (hb hby at_38) rfl (XS.icmpNo X20.here hx rfl (hb hby at_39) rfl (teq (by decide)).2 (XS.iconst X20.here hx rfl (hb hby at_42) (XS.goto X20.here hx rfl (pc0 := 43) (pc' := 47) rfl (hb hby at_43) (by decide) (by decide) hr))))))) ?_
  show own_Go p e below _ (T20.setTop (mkF m 47 #[.val (.int x0), .val (.int (2 : Int32)), .val (.ref r_TAX), .val (.int (1 : Int32)), .val (.int (1 : Int32))] [(.int (1 : Int32))]))
  exact own_retN X20 hx hlk Bd.returns (t := .boolean) (by simp) (hb hby at_47) (by decide) (by decide) ⟨rfl, N20⟩
set_option maxRecDepth 65536 in
set_option maxHeartbeats 40000000 in
theorem comes_1 {Post : Tables → Env → Array Value → State → Outcome → State → Prop} (hpost : ∀ tb e args s v u, (limb_1_1.after args s (.returned v) u = true ∧ limb_1_2.after args s (.returned v) u = true ∧ True) → FrameEnd s (.returned v) u (Jvm.fieldLocs frame_1_writes args s ++ Jvm.arrayLocs frame_1_arrays args s ++ Jvm.staticLocs frame_1_statics s) 0 0 → Post tb e args s (.returned v) u) :
    ArmFor flags0 classFile x code maxLocals ret World_1 tables_1 room_1 Calls_1 rest_1 Pre_1 Post := by
  intro l hfl _ _ p e ha hc hk s m args below hf hA hF happ hP
  obtain ⟨hcalls, hrest, hpre⟩ := hP
  obtain ⟨-, -, -, hnamed, -, -, -, hat⟩ := (Spec.applies_iff hf).mp happ
  obtain ⟨hg, hn⟩ := and_e (Cond.before_iff.mp (show (Jvm.Cond.and given_1 narrow_1).before args s = true from hpre))
  obtain ⟨g1, g2⟩ := and_e hg
  obtain ⟨w0, rfl⟩ : ∃ w0 : Value, args = #[w0] := by
    have hs : args.size = 1 := by simpa [Cond.value, given_1] using g1
    obtain ⟨L⟩ := args
    match L, hs with
    | [w0], _ => exact ⟨w0, rfl⟩
  have hw := fun d (hd : d ∈ tables_1) => atoms_spec (ws := Jvm.Cond.code x code maxLocals ret :: tables_1) hat d (List.mem_cons_of_mem _ hd)
  have hfit : Fit s := fun {y c} hc i hi => by
    obtain ⟨ha, rfl⟩ := Array.getElem?_eq_some_iff.mp hc
    have q := List.all_eq_true.mp ((Array.all_eq_true_iff_forall_mem.mp hF) _ (Array.getElem_mem ha)) i (List.mem_range.mpr hi)
    simpa [Array.getElem?_eq_getElem hi] using q
  obtain ⟨hsets, hown0⟩ := atoms_of _ (rest_1_c_eq ▸ (show rest_1_c.before _ s = true from hrest))
  have hr0 := Cond.before_iff.mp hown0
  obtain ⟨i0, ei0⟩ := is_v g2
  obtain rfl : w0 = (.int i0) := Option.some.inj ei0
  obtain ⟨g1001, g1002⟩ := and_e hn
  obtain ⟨g1003, g1004⟩ := and_e g1002
  obtain ⟨g1005, g1006⟩ := and_e g1004
  obtain ⟨g1007, g1008⟩ := and_e g1006
  obtain ⟨g1009, g1010⟩ := and_e g1008
  obtain ⟨g1011, g1012⟩ := and_e g1010
  obtain ⟨g1013, g1014⟩ := and_e g1012
  obtain ⟨g1015, g1016⟩ := and_e g1014
  obtain ⟨g1017, g1018⟩ := and_e g1016
  obtain ⟨g1019, g1020⟩ := and_e g1018
  obtain ⟨g1021, g1022⟩ := and_e g1020
  obtain ⟨g1023, g1024⟩ := and_e g1022
  obtain ⟨g1025, g1026⟩ := and_e g1024
  obtain ⟨g1027, g1028⟩ := and_e g1026
  obtain ⟨g1029, g1030⟩ := and_e g1028
  obtain ⟨g1031, g1032⟩ := and_e g1030
  obtain ⟨g1033, g1034⟩ := and_e g1032
  obtain ⟨g1035, g1036⟩ := and_e g1034
  obtain ⟨g1037, g1038⟩ := and_e g1036
  obtain ⟨g1039, g1040⟩ := and_e g1038
  obtain ⟨g1041, g1042⟩ := and_e g1040
  obtain ⟨g1043, g1044⟩ := and_e g1042
  obtain ⟨g1045, g1046⟩ := and_e g1044
  obtain ⟨g1047, g1048⟩ := and_e g1046
  obtain ⟨g1049, g1050⟩ := and_e g1048
  obtain ⟨g1051, g1052⟩ := and_e g1050
  obtain ⟨g1053, g1054⟩ := and_e g1052
  obtain ⟨g1055, g1056⟩ := and_e g1054
  obtain ⟨g1057, g1058⟩ := and_e g1056
  obtain ⟨g1059, g1060⟩ := and_e g1058
  obtain ⟨g1061, g1062⟩ := and_e g1060
  obtain ⟨g1063, g1064⟩ := and_e g1062
  obtain ⟨g1065, g1066⟩ := and_e g1064
  obtain ⟨g1067, g1068⟩ := and_e g1066
  obtain ⟨g1069, g1070⟩ := and_e g1068
  obtain ⟨g1071, g1072⟩ := and_e g1070
  obtain ⟨g1073, g1074⟩ := and_e g1072
  obtain ⟨g1075, g1076⟩ := and_e g1074
  obtain ⟨g1077, g1078⟩ := and_e g1076
  obtain ⟨g1079, g1080⟩ := and_e g1078
  obtain ⟨g1081, g1082⟩ := and_e g1080
  obtain ⟨g1083, g1084⟩ := and_e g1082
  obtain ⟨g1085, g1086⟩ := and_e g1084
  obtain ⟨g1087, g1088⟩ := and_e g1086
  obtain ⟨g1089, g1090⟩ := and_e g1088
  obtain ⟨g1091, g1092⟩ := and_e g1090
  obtain ⟨g1093, g1094⟩ := and_e g1092
  obtain ⟨g1095, g1096⟩ := and_e g1094
  obtain ⟨g1097, g1098⟩ := and_e g1096
  obtain ⟨g1099, g1100⟩ := and_e g1098
  obtain ⟨g1101, g1102⟩ := and_e g1100
  obtain ⟨g1103, g1104⟩ := and_e g1102
  obtain ⟨g1105, g1106⟩ := and_e g1104
  obtain ⟨g1107, g1108⟩ := and_e g1106
  obtain ⟨g1109, g1110⟩ := and_e g1108
  obtain ⟨g1111, g1112⟩ := and_e g1110
  obtain ⟨g1113, g1114⟩ := and_e g1112
  obtain ⟨g1115, g1116⟩ := and_e g1114
  obtain ⟨g1117, g1118⟩ := and_e g1116
  obtain ⟨g1119, g1120⟩ := and_e g1118
  obtain ⟨r_USAGE, er_USAGE⟩ := exa_v g1001
  have S_USAGE := Sta.start er_USAGE (Or.inr ⟨(hw _ (own_m 5 rfl)), (hw _ (own_m 6 rfl))⟩)
  have E_USAGE := Exa.start er_USAGE g1001
  obtain ⟨r_USAGE_header, er_USAGE_header⟩ := exa_v g1003
  have F_USAGE_header := Fld.start ((fld_at er_USAGE).symm.trans er_USAGE_header)
  have E_USAGE_header := Exa.start er_USAGE_header g1003
  obtain ⟨r_USAGE_header_value, er_USAGE_header_value⟩ := arr_v g1005
  have F_USAGE_header_value := Fld.start ((fld_at er_USAGE_header).symm.trans er_USAGE_header_value)
  obtain ⟨c_USAGE_header_value, A_USAGE_header_value⟩ := Arr.start er_USAGE_header_value g1005
  have F_USAGE_header_coder := Fld.start ((fld_at er_USAGE_header).symm.trans (own_eq_int g1009))
  obtain ⟨r_GAS_PART, er_GAS_PART⟩ := exa_v g1011
  have S_GAS_PART := Sta.start er_GAS_PART (Or.inr ⟨(hw _ (own_m 5 rfl)), (hw _ (own_m 62 rfl))⟩)
  have E_GAS_PART := Exa.start er_GAS_PART g1011
  obtain ⟨r_GAS_PART_header, er_GAS_PART_header⟩ := exa_v g1013
  have F_GAS_PART_header := Fld.start ((fld_at er_GAS_PART).symm.trans er_GAS_PART_header)
  have E_GAS_PART_header := Exa.start er_GAS_PART_header g1013
  obtain ⟨r_GAS_PART_header_value, er_GAS_PART_header_value⟩ := arr_v g1015
  have F_GAS_PART_header_value := Fld.start ((fld_at er_GAS_PART_header).symm.trans er_GAS_PART_header_value)
  obtain ⟨c_GAS_PART_header_value, A_GAS_PART_header_value⟩ := Arr.start er_GAS_PART_header_value g1015
  have F_GAS_PART_header_coder := Fld.start ((fld_at er_GAS_PART_header).symm.trans (own_eq_int g1019))
  have F_GAS_PART_ordinal := Fld.start ((fld_at er_GAS_PART).symm.trans (own_eq_int g1021))
  have F_USAGE_ordinal := Fld.start ((fld_at er_USAGE).symm.trans (own_eq_int g1023))
  obtain ⟨r_TAX, er_TAX⟩ := exa_v g1025
  have S_TAX := Sta.start er_TAX (Or.inr ⟨(hw _ (own_m 5 rfl)), (hw _ (own_m 64 rfl))⟩)
  have E_TAX := Exa.start er_TAX g1025
  obtain ⟨r_TAX_header, er_TAX_header⟩ := exa_v g1027
  have F_TAX_header := Fld.start ((fld_at er_TAX).symm.trans er_TAX_header)
  have E_TAX_header := Exa.start er_TAX_header g1027
  obtain ⟨r_TAX_header_value, er_TAX_header_value⟩ := arr_v g1029
  have F_TAX_header_value := Fld.start ((fld_at er_TAX_header).symm.trans er_TAX_header_value)
  obtain ⟨c_TAX_header_value, A_TAX_header_value⟩ := Arr.start er_TAX_header_value g1029
  have F_TAX_header_coder := Fld.start ((fld_at er_TAX_header).symm.trans (own_eq_int g1033))
  have F_TAX_ordinal := Fld.start ((fld_at er_TAX).symm.trans (own_eq_int g1035))
  obtain ⟨r_CHARGE, er_CHARGE⟩ := exa_v g1037
  have S_CHARGE := Sta.start er_CHARGE (Or.inr ⟨(hw _ (own_m 5 rfl)), (hw _ (own_m 66 rfl))⟩)
  have E_CHARGE := Exa.start er_CHARGE g1037
  obtain ⟨r_CHARGE_header, er_CHARGE_header⟩ := exa_v g1039
  have F_CHARGE_header := Fld.start ((fld_at er_CHARGE).symm.trans er_CHARGE_header)
  have E_CHARGE_header := Exa.start er_CHARGE_header g1039
  obtain ⟨r_CHARGE_header_value, er_CHARGE_header_value⟩ := arr_v g1041
  have F_CHARGE_header_value := Fld.start ((fld_at er_CHARGE_header).symm.trans er_CHARGE_header_value)
  obtain ⟨c_CHARGE_header_value, A_CHARGE_header_value⟩ := Arr.start er_CHARGE_header_value g1041
  have F_CHARGE_header_coder := Fld.start ((fld_at er_CHARGE_header).symm.trans (own_eq_int g1045))
  have F_CHARGE_ordinal := Fld.start ((fld_at er_CHARGE).symm.trans (own_eq_int g1047))
  obtain ⟨k_USAGE_header_value, ek_USAGE_header_value⟩ : ∃ z, z = c_USAGE_header_value.cls := ⟨_, rfl⟩
  have V_USAGE_header_value : Arv s s.heap r_USAGE_header_value k_USAGE_header_value .byte (8 : Int32) [(.int (117 : Int32)), (.int (115 : Int32)), (.int (97 : Int32)), (.int (103 : Int32)), (.int (101 : Int32)), (.int (95 : Int32)), (.int (109 : Int32)), (.int (51 : Int32))] (.int (0 : Int32)) := ek_USAGE_header_value ▸ own_arv hfit er_USAGE_header_value A_USAGE_header_value (own_eq_int g1007) (by decide) (by decide) ⟨(elem_in (own_eq_int g1049) er_USAGE_header_value (Term.int_eval _) A_USAGE_header_value.1).2, (elem_in (own_eq_int g1051) er_USAGE_header_value (Term.int_eval _) A_USAGE_header_value.1).2, (elem_in (own_eq_int g1053) er_USAGE_header_value (Term.int_eval _) A_USAGE_header_value.1).2, (elem_in (own_eq_int g1055) er_USAGE_header_value (Term.int_eval _) A_USAGE_header_value.1).2, (elem_in (own_eq_int g1057) er_USAGE_header_value (Term.int_eval _) A_USAGE_header_value.1).2, (elem_in (own_eq_int g1059) er_USAGE_header_value (Term.int_eval _) A_USAGE_header_value.1).2, (elem_in (own_eq_int g1061) er_USAGE_header_value (Term.int_eval _) A_USAGE_header_value.1).2, (elem_in (own_eq_int g1063) er_USAGE_header_value (Term.int_eval _) A_USAGE_header_value.1).2, trivial⟩
  obtain ⟨k_GAS_PART_header_value, ek_GAS_PART_header_value⟩ : ∃ z, z = c_GAS_PART_header_value.cls := ⟨_, rfl⟩
  have V_GAS_PART_header_value : Arv s s.heap r_GAS_PART_header_value k_GAS_PART_header_value .byte (12 : Int32) [(.int (103 : Int32)), (.int (97 : Int32)), (.int (115 : Int32)), (.int (95 : Int32)), (.int (112 : Int32)), (.int (97 : Int32)), (.int (114 : Int32)), (.int (116 : Int32)), (.int (95 : Int32)), (.int (121 : Int32)), (.int (101 : Int32)), (.int (110 : Int32))] (.int (0 : Int32)) := ek_GAS_PART_header_value ▸ own_arv hfit er_GAS_PART_header_value A_GAS_PART_header_value (own_eq_int g1017) (by decide) (by decide) ⟨(elem_in (own_eq_int g1065) er_GAS_PART_header_value (Term.int_eval _) A_GAS_PART_header_value.1).2, (elem_in (own_eq_int g1067) er_GAS_PART_header_value (Term.int_eval _) A_GAS_PART_header_value.1).2, (elem_in (own_eq_int g1069) er_GAS_PART_header_value (Term.int_eval _) A_GAS_PART_header_value.1).2, (elem_in (own_eq_int g1071) er_GAS_PART_header_value (Term.int_eval _) A_GAS_PART_header_value.1).2, (elem_in (own_eq_int g1073) er_GAS_PART_header_value (Term.int_eval _) A_GAS_PART_header_value.1).2, (elem_in (own_eq_int g1075) er_GAS_PART_header_value (Term.int_eval _) A_GAS_PART_header_value.1).2, (elem_in (own_eq_int g1077) er_GAS_PART_header_value (Term.int_eval _) A_GAS_PART_header_value.1).2, (elem_in (own_eq_int g1079) er_GAS_PART_header_value (Term.int_eval _) A_GAS_PART_header_value.1).2, (elem_in (own_eq_int g1081) er_GAS_PART_header_value (Term.int_eval _) A_GAS_PART_header_value.1).2, (elem_in (own_eq_int g1083) er_GAS_PART_header_value (Term.int_eval _) A_GAS_PART_header_value.1).2, (elem_in (own_eq_int g1085) er_GAS_PART_header_value (Term.int_eval _) A_GAS_PART_header_value.1).2, (elem_in (own_eq_int g1087) er_GAS_PART_header_value (Term.int_eval _) A_GAS_PART_header_value.1).2, trivial⟩
  obtain ⟨k_TAX_header_value, ek_TAX_header_value⟩ : ∃ z, z = c_TAX_header_value.cls := ⟨_, rfl⟩
  have V_TAX_header_value : Arv s s.heap r_TAX_header_value k_TAX_header_value .byte (7 : Int32) [(.int (116 : Int32)), (.int (97 : Int32)), (.int (120 : Int32)), (.int (95 : Int32)), (.int (121 : Int32)), (.int (101 : Int32)), (.int (110 : Int32))] (.int (0 : Int32)) := ek_TAX_header_value ▸ own_arv hfit er_TAX_header_value A_TAX_header_value (own_eq_int g1031) (by decide) (by decide) ⟨(elem_in (own_eq_int g1089) er_TAX_header_value (Term.int_eval _) A_TAX_header_value.1).2, (elem_in (own_eq_int g1091) er_TAX_header_value (Term.int_eval _) A_TAX_header_value.1).2, (elem_in (own_eq_int g1093) er_TAX_header_value (Term.int_eval _) A_TAX_header_value.1).2, (elem_in (own_eq_int g1095) er_TAX_header_value (Term.int_eval _) A_TAX_header_value.1).2, (elem_in (own_eq_int g1097) er_TAX_header_value (Term.int_eval _) A_TAX_header_value.1).2, (elem_in (own_eq_int g1099) er_TAX_header_value (Term.int_eval _) A_TAX_header_value.1).2, (elem_in (own_eq_int g1101) er_TAX_header_value (Term.int_eval _) A_TAX_header_value.1).2, trivial⟩
  obtain ⟨k_CHARGE_header_value, ek_CHARGE_header_value⟩ : ∃ z, z = c_CHARGE_header_value.cls := ⟨_, rfl⟩
  have V_CHARGE_header_value : Arv s s.heap r_CHARGE_header_value k_CHARGE_header_value .byte (10 : Int32) [(.int (99 : Int32)), (.int (104 : Int32)), (.int (97 : Int32)), (.int (114 : Int32)), (.int (103 : Int32)), (.int (101 : Int32)), (.int (95 : Int32)), (.int (121 : Int32)), (.int (101 : Int32)), (.int (110 : Int32))] (.int (0 : Int32)) := ek_CHARGE_header_value ▸ own_arv hfit er_CHARGE_header_value A_CHARGE_header_value (own_eq_int g1043) (by decide) (by decide) ⟨(elem_in (own_eq_int g1103) er_CHARGE_header_value (Term.int_eval _) A_CHARGE_header_value.1).2, (elem_in (own_eq_int g1105) er_CHARGE_header_value (Term.int_eval _) A_CHARGE_header_value.1).2, (elem_in (own_eq_int g1107) er_CHARGE_header_value (Term.int_eval _) A_CHARGE_header_value.1).2, (elem_in (own_eq_int g1109) er_CHARGE_header_value (Term.int_eval _) A_CHARGE_header_value.1).2, (elem_in (own_eq_int g1111) er_CHARGE_header_value (Term.int_eval _) A_CHARGE_header_value.1).2, (elem_in (own_eq_int g1113) er_CHARGE_header_value (Term.int_eval _) A_CHARGE_header_value.1).2, (elem_in (own_eq_int g1115) er_CHARGE_header_value (Term.int_eval _) A_CHARGE_header_value.1).2, (elem_in (own_eq_int g1117) er_CHARGE_header_value (Term.int_eval _) A_CHARGE_header_value.1).2, (elem_in (own_eq_int g1119) er_CHARGE_header_value (Term.int_eval _) A_CHARGE_header_value.1).2, (elem_in (own_eq_int g1120) er_CHARGE_header_value (Term.int_eval _) A_CHARGE_header_value.1).2, trivial⟩
  obtain ⟨i_COMPACT_STRINGS, ei_COMPACT_STRINGS⟩ := is_v (Cond.before_iff.mp (hsets _ (List.mem_of_getElem? (i := 1) rfl)))
  have S_COMPACT_STRINGS := Sta.start ei_COMPACT_STRINGS (Or.inl (hsets _ (List.mem_of_getElem? (i := 0) rfl)))
  have hs_COMPACT_STRINGS : ¬ (i_COMPACT_STRINGS = (0 : Int32)) := gotF (Cond.eq_ints ei_COMPACT_STRINGS (Term.int_eval _)) (not_v (Cond.before_iff.mp (hsets _ (List.mem_of_getElem? (i := 2) rfl))))
  obtain ⟨v_SIOOBE_FORMATTER, ev_SIOOBE_FORMATTER, hv_SIOOBE_FORMATTER⟩ := isR_v (Cond.before_iff.mp (hsets _ (List.mem_of_getElem? (i := 8) rfl)))
  have S_SIOOBE_FORMATTER := Sta.start ev_SIOOBE_FORMATTER (Or.inl (hsets _ (List.mem_of_getElem? (i := 7) rfl)))
  have ne_r_GAS_PART_r_USAGE : r_GAS_PART ≠ r_USAGE := Fld.ne F_GAS_PART_ordinal F_USAGE_ordinal (by first | decide | simp)
  have ne_r_GAS_PART_r_TAX : r_GAS_PART ≠ r_TAX := Fld.ne F_GAS_PART_ordinal F_TAX_ordinal (by first | decide | simp)
  have ne_r_GAS_PART_r_CHARGE : r_GAS_PART ≠ r_CHARGE := Fld.ne F_GAS_PART_ordinal F_CHARGE_ordinal (by first | decide | simp)
  have ne_r_USAGE_r_TAX : r_USAGE ≠ r_TAX := Fld.ne F_USAGE_ordinal F_TAX_ordinal (by first | decide | simp)
  have ne_r_USAGE_r_CHARGE : r_USAGE ≠ r_CHARGE := Fld.ne F_USAGE_ordinal F_CHARGE_ordinal (by first | decide | simp)
  have ne_r_TAX_r_CHARGE : r_TAX ≠ r_CHARGE := Fld.ne F_TAX_ordinal F_CHARGE_ordinal (by first | decide | simp)
  obtain ⟨n, o, h1, h2, h3, _, L, rfl, ⟨rfl, N⟩, hq⟩ := rm_law l s _ hw tables_1 i0 r_USAGE r_USAGE_header r_USAGE_header_value r_GAS_PART r_GAS_PART_header r_GAS_PART_header_value r_TAX r_TAX_header r_TAX_header_value r_CHARGE r_CHARGE_header r_CHARGE_header_value k_USAGE_header_value k_GAS_PART_header_value k_TAX_header_value k_CHARGE_header_value i_COMPACT_STRINGS v_SIOOBE_FORMATTER s.heap s.heap.size (Nat.le_refl _) S_USAGE E_USAGE F_USAGE_header E_USAGE_header F_USAGE_header_value F_USAGE_header_coder S_GAS_PART E_GAS_PART F_GAS_PART_header E_GAS_PART_header F_GAS_PART_header_value F_GAS_PART_header_coder F_GAS_PART_ordinal F_USAGE_ordinal S_TAX E_TAX F_TAX_header E_TAX_header F_TAX_header_value F_TAX_header_coder F_TAX_ordinal S_CHARGE E_CHARGE F_CHARGE_header E_CHARGE_header F_CHARGE_header_value F_CHARGE_header_coder F_CHARGE_ordinal V_USAGE_header_value V_GAS_PART_header_value V_TAX_header_value V_CHARGE_header_value S_COMPACT_STRINGS S_SIOOBE_FORMATTER hs_COMPACT_STRINGS hv_SIOOBE_FORMATTER ne_r_GAS_PART_r_USAGE ne_r_GAS_PART_r_TAX ne_r_GAS_PART_r_CHARGE ne_r_USAGE_r_TAX ne_r_USAGE_r_CHARGE ne_r_TAX_r_CHARGE p e ha hc hk s m _ below hf ((Spec.applies_iff_loose hf).mp happ).1 ⟨rfl, State.Warmed39.refl s, rfl⟩ trivial
  refine ⟨n, _, h1, h2, h3, hpost _ _ _ _ _ _ ⟨Cond.after_iff.mpr rfl, Cond.after_iff.mpr (eq_i res_at (Term.int_eval (1)) rfl), trivial⟩ ⟨hq.1, hq.2.1, (hq.2.2.sift fun y hy => Or.inr (N y hy)).mono (by decide) (by decide)⟩⟩
theorem main_1_1 : Claimed_1_1 := comes_1 fun _ _ _ _ _ _ h hF => ⟨h.1, hF⟩
theorem main_1_2 : Claimed_1_2 := comes_1 fun _ _ _ _ _ _ h hF => ⟨h.2.1, hF⟩
end Jvm.Pilot.@@N@@
namespace Jvm.Pilot.@@N@@
open Jvm Jvm.ClassFile Sem Op Lib Jvm.Free Jvm.Stand Jvm.Pilot.@@N@@.Jvm.D
/-! MADE BY PROGRAM (witnessworld.py) out of the Statement's table words and the real class files: 18 classes; the members and pool entries that the words name. The judged class is class 1, her method 3. -/
namespace start1
open Jvm.ClassFile
def u (s : String) : CpInfo := .utf8 (stringToUtf16 s)
/-- a pool by its gaps: so many unusable entries, then the entry; so many at the end -/
def gap : Nat → List CpInfo → List CpInfo
  | 0, r => r
  | n + 1, r => .unusable :: gap n r
def poolList (es : List (Nat × CpInfo)) (last : Nat) : List CpInfo := es.foldr (fun e r => gap e.1 (e.2 :: r)) (gap last [])
def pool (es : List (Nat × CpInfo)) (last : Nat) : Array CpInfo := ⟨poolList es last⟩
def fileOf (pool : Array CpInfo) (this : Nat) (attrs : Array Attribute := #[]) (ms : Array MethodInfo := #[]) (fl : Nat := 33) (sup : Nat := 0) (ifs : Array Nat := #[]) (fds : Array FieldInfo := #[]) : ClassFile where
  minorVersion := 0
  majorVersion := 65
  constantPool := pool
  accessFlags := fl
  thisClass := this
  superClass := sup
  interfaces := ifs
  fields := fds
  methods := ms
  attributes := attrs
def plain (name : String) (sup : Option ClassId) : Class where
  name := name
  kind := .ordinary
  loader := none
  accessFlags := 33
  super := sup
  interfaces := #[]
  cf := none
  fields := #[]
  methods := #[]
  instanceTypes := #[]
  staticTypes := #[]
  resolved := #[]
  callSites := []
  init := .initialized
  statics := none
  mirror := none

def pool0 : Array CpInfo := pool [(5, u "<init>"), (0, u "()V"), (1, .class_ 10), (1, u "java/lang/Object")] 113

def k0m0 : Method := { name := "<init>", desc := "()V", sig := { parameters := [], returnType := none }, accessFlags := 1, code := none }
/-- java/lang/Object -/
def k0 : Class := { plain "java/lang/Object" none with
  accessFlags := 33
  interfaces := #[]
  cf := some (fileOf pool0 8 #[] #[{ accessFlags := 1, nameIndex := 5, descriptorIndex := 6, attributes := #[] }] 33 0 #[] #[])
  fields := #[]
  methods := #[k0m0]
  instanceTypes := #[]
  staticTypes := #[]
  resolved := Array.replicate 124 none
  statics := none }

def pool1 : Array CpInfo := pool [(2, .class_ 4), (1, u "java/lang/Object"), (0, u "<init>"), (0, u "()V"), (0, .fieldref 8 9), (0, .class_ 10), (0, .nameAndType 11 12), (0, u "com/example/strict_tariff/stricttariff/pricing/Column"), (0, u "USAGE"), (0, u "Lcom/example/strict_tariff/stricttariff/pricing/Column;"), (0, .fieldref 8 14), (0, .nameAndType 15 12), (0, u "CHARGE"), (0, .fieldref 8 17), (0, .nameAndType 18 12), (0, u "TAX"), (0, .fieldref 8 20), (0, .nameAndType 21 12), (0, u "GAS_PART"), (0, .methodref 23 24), (0, .class_ 25), (0, .nameAndType 26 27), (0, u "java/lang/String"), (0, u "length"), (0, u "()I"), (0, .methodref 23 29), (0, .nameAndType 30 31), (0, u "charAt"), (0, u "(I)C"), (0, .methodref 33 34), (0, .class_ 35), (0, .nameAndType 36 37), (0, u "com/example/strict_tariff/stricttariff/pricing/ColumnIsAmountPinLaw"), (0, u "pick"), (0, u "(I)Lcom/example/strict_tariff/stricttariff/pricing/Column;"), (0, .methodref 8 39), (0, .nameAndType 40 41), (0, u "header"), (0, u "()Ljava/lang/String;"), (0, .methodref 33 43), (0, .nameAndType 44 45), (0, u "endsInYen"), (0, u "(Ljava/lang/String;)Z"), (0, .methodref 8 47), (0, .nameAndType 48 49), (0, u "isAmount"), (0, u "()Z"), (3, u "law"), (0, u "(I)Z")] 2

def k1m0 : Method := { name := "<init>", desc := "()V", sig := { parameters := [], returnType := none }, accessFlags := 2, code := none }
def k1c1 : Code := { maxStack := 2, maxLocals := 1, code := method_2_code, exceptionTable := #[], attributes := #[] }
def k1m1 : Method := { name := "pick", desc := "(I)Lcom/example/strict_tariff/stricttariff/pricing/Column;", sig := { parameters := [.int], returnType := some (.object "com/example/strict_tariff/stricttariff/pricing/Column") }, accessFlags := 10, code := some k1c1 }
def k1c2 : Code := { maxStack := 3, maxLocals := 2, code := method_3_code, exceptionTable := #[], attributes := #[] }
def k1m2 : Method := { name := "endsInYen", desc := "(Ljava/lang/String;)Z", sig := { parameters := [(.object "java/lang/String")], returnType := some .boolean }, accessFlags := 10, code := some k1c2 }
def k1c3 : Code := { maxStack := 2, maxLocals := 5, code := code, exceptionTable := #[], attributes := #[] }
def k1m3 : Method := { name := "law", desc := "(I)Z", sig := { parameters := [.int], returnType := some .boolean }, accessFlags := 9, code := some k1c3 }
/-- com/example/strict_tariff/stricttariff/pricing/ColumnIsAmountPinLaw -/
def k1 : Class := { plain "com/example/strict_tariff/stricttariff/pricing/ColumnIsAmountPinLaw" (some 0) with
  accessFlags := 49
  interfaces := #[]
  cf := some (fileOf pool1 33 #[] #[{ accessFlags := 2, nameIndex := 5, descriptorIndex := 6, attributes := #[] }, { accessFlags := 10, nameIndex := 36, descriptorIndex := 37, attributes := #[] }, { accessFlags := 10, nameIndex := 44, descriptorIndex := 45, attributes := #[] }, { accessFlags := 9, nameIndex := 53, descriptorIndex := 54, attributes := #[] }] 49 2 #[] #[])
  fields := #[]
  methods := #[k1m0, k1m1, k1m2, k1m3]
  instanceTypes := #[]
  staticTypes := #[]
  resolved := Array.replicate 57 none
  statics := none }

def pool2 : Array CpInfo := pool [(1, .class_ 2), (0, u "java/lang/constant/Constable"), (0, .class_ 4), (0, u "java/lang/Object")] 6

/-- java/lang/constant/Constable -/
def k2 : Class := { plain "java/lang/constant/Constable" (some 0) with
  accessFlags := 1537
  interfaces := #[]
  cf := some (fileOf pool2 1 #[] #[] 1537 3 #[] #[])
  fields := #[]
  methods := #[]
  instanceTypes := #[]
  staticTypes := #[]
  resolved := Array.replicate 11 none
  statics := none }

def pool3 : Array CpInfo := pool [(1, .class_ 2), (0, u "java/lang/Comparable"), (0, .class_ 4), (0, u "java/lang/Object")] 7

/-- java/lang/Comparable -/
def k3 : Class := { plain "java/lang/Comparable" (some 0) with
  accessFlags := 1537
  interfaces := #[]
  cf := some (fileOf pool3 1 #[] #[] 1537 3 #[] #[])
  fields := #[]
  methods := #[]
  instanceTypes := #[]
  staticTypes := #[]
  resolved := Array.replicate 12 none
  statics := none }

def pool4 : Array CpInfo := pool [(1, .class_ 2), (0, u "java/io/Serializable"), (0, .class_ 4), (0, u "java/lang/Object")] 2

/-- java/io/Serializable -/
def k4 : Class := { plain "java/io/Serializable" (some 0) with
  accessFlags := 1537
  interfaces := #[]
  cf := some (fileOf pool4 1 #[] #[] 1537 3 #[] #[])
  fields := #[]
  methods := #[]
  instanceTypes := #[]
  staticTypes := #[]
  resolved := Array.replicate 7 none
  statics := none }

def pool5 : Array CpInfo := pool [(2, .class_ 4), (1, u "java/lang/Enum"), (0, u "name"), (0, u "Ljava/lang/String;"), (2, u "ordinal"), (0, u "I"), (1, .class_ 14), (1, u "java/lang/Object"), (4, u "hash"), (86, .class_ 108), (1, u "java/lang/Enum$EnumDesc"), (2, .class_ 112), (0, u "java/lang/constant/Constable"), (0, .class_ 114), (0, u "java/lang/Comparable"), (0, .class_ 116), (0, u "java/io/Serializable")] 87

/-- java/lang/Enum -/
def k5 : Class := { plain "java/lang/Enum" (some 0) with
  accessFlags := 1057
  interfaces := #[2, 3, 4]
  cf := some (fileOf pool5 2 #[.nestMembers #[106]] #[] 1057 12 #[111, 113, 115] #[{ accessFlags := 18, nameIndex := 5, descriptorIndex := 6, attributes := #[] }, { accessFlags := 18, nameIndex := 9, descriptorIndex := 10, attributes := #[] }, { accessFlags := 2, nameIndex := 19, descriptorIndex := 10, attributes := #[] }])
  fields := #[{ name := "name", type := (.object "java/lang/String"), accessFlags := 18, slot := 0, constantValue := 0 }, { name := "ordinal", type := .int, accessFlags := 18, slot := 1, constantValue := 0 }, { name := "hash", type := .int, accessFlags := 2, slot := 2, constantValue := 0 }]
  methods := #[]
  instanceTypes := #[(.object "java/lang/String"), .int, .int]
  staticTypes := #[]
  resolved := Array.replicate 204 none
  statics := none }

def pool6 : Array CpInfo := pool [(1, .class_ 2), (0, u "com/example/strict_tariff/stricttariff/pricing/Column"), (0, .fieldref 1 4), (0, .nameAndType 5 6), (0, u "USAGE"), (0, u "Lcom/example/strict_tariff/stricttariff/pricing/Column;"), (2, u "CHARGE"), (2, u "TAX"), (2, u "GAS_PART"), (2, u "$VALUES"), (0, u "[Lcom/example/strict_tariff/stricttariff/pricing/Column;"), (6, .class_ 28), (1, u "java/lang/Enum"), (6, .fieldref 1 36), (0, .nameAndType 37 38), (0, u "header"), (0, u "Ljava/lang/String;"), (2, u "value"), (0, u "Ljava/util/function/Function;"), (57, u "()Z"), (84, u "()Ljava/lang/String;"), (0, u "isAmount")] 53

def k6c0 : Code := { maxStack := 1, maxLocals := 1, code := prog_4_method_4_code, exceptionTable := #[], attributes := #[] }
def k6m0 : Method := { name := "header", desc := "()Ljava/lang/String;", sig := { parameters := [], returnType := some (.object "java/lang/String") }, accessFlags := 1, code := some k6c0 }
def k6c1 : Code := { maxStack := 2, maxLocals := 1, code := prog_4_method_5_code, exceptionTable := #[], attributes := #[] }
def k6m1 : Method := { name := "isAmount", desc := "()Z", sig := { parameters := [], returnType := some .boolean }, accessFlags := 1, code := some k6c1 }
/-- com/example/strict_tariff/stricttariff/pricing/Column -/
def k6 : Class := { plain "com/example/strict_tariff/stricttariff/pricing/Column" (some 5) with
  accessFlags := 16433
  interfaces := #[]
  cf := some (fileOf pool6 1 #[] #[{ accessFlags := 1, nameIndex := 37, descriptorIndex := 185, attributes := #[] }, { accessFlags := 1, nameIndex := 186, descriptorIndex := 100, attributes := #[] }] 16433 26 #[] #[{ accessFlags := 16409, nameIndex := 5, descriptorIndex := 6, attributes := #[] }, { accessFlags := 16409, nameIndex := 9, descriptorIndex := 6, attributes := #[] }, { accessFlags := 16409, nameIndex := 12, descriptorIndex := 6, attributes := #[] }, { accessFlags := 16409, nameIndex := 15, descriptorIndex := 6, attributes := #[] }, { accessFlags := 18, nameIndex := 37, descriptorIndex := 38, attributes := #[] }, { accessFlags := 18, nameIndex := 41, descriptorIndex := 42, attributes := #[] }, { accessFlags := 4122, nameIndex := 18, descriptorIndex := 19, attributes := #[] }])
  fields := #[{ name := "USAGE", type := (.object "com/example/strict_tariff/stricttariff/pricing/Column"), accessFlags := 16409, slot := 0, constantValue := 0 }, { name := "CHARGE", type := (.object "com/example/strict_tariff/stricttariff/pricing/Column"), accessFlags := 16409, slot := 1, constantValue := 0 }, { name := "TAX", type := (.object "com/example/strict_tariff/stricttariff/pricing/Column"), accessFlags := 16409, slot := 2, constantValue := 0 }, { name := "GAS_PART", type := (.object "com/example/strict_tariff/stricttariff/pricing/Column"), accessFlags := 16409, slot := 3, constantValue := 0 }, { name := "header", type := (.object "java/lang/String"), accessFlags := 18, slot := 3, constantValue := 0 }, { name := "value", type := (.object "java/util/function/Function"), accessFlags := 18, slot := 4, constantValue := 0 }, { name := "$VALUES", type := (.array (.object "com/example/strict_tariff/stricttariff/pricing/Column")), accessFlags := 4122, slot := 4, constantValue := 0 }]
  methods := #[k6m0, k6m1]
  instanceTypes := #[(.object "java/lang/String"), .int, .int, (.object "java/lang/String"), (.object "java/util/function/Function")]
  staticTypes := #[(.object "com/example/strict_tariff/stricttariff/pricing/Column"), (.object "com/example/strict_tariff/stricttariff/pricing/Column"), (.object "com/example/strict_tariff/stricttariff/pricing/Column"), (.object "com/example/strict_tariff/stricttariff/pricing/Column"), (.array (.object "com/example/strict_tariff/stricttariff/pricing/Column"))]
  resolved := Array.replicate 240 none
  statics := some 0 }

def pool7 : Array CpInfo := pool [(2, .class_ 4), (1, u "java/lang/CharSequence"), (42, .class_ 48), (0, u "java/lang/CharSequence$1CodePointIterator"), (10, .class_ 60), (0, u "java/lang/CharSequence$1CharIterator"), (5, .class_ 67), (0, u "java/lang/Object")] 63

/-- java/lang/CharSequence -/
def k7 : Class := { plain "java/lang/CharSequence" (some 0) with
  accessFlags := 1537
  interfaces := #[]
  cf := some (fileOf pool7 2 #[.nestMembers #[47, 59]] #[] 1537 66 #[] #[])
  fields := #[]
  methods := #[]
  instanceTypes := #[]
  staticTypes := #[]
  resolved := Array.replicate 131 none
  statics := none }

def pool8 : Array CpInfo := pool [(1, .class_ 2), (0, u "java/lang/constant/ConstantDesc"), (0, .class_ 4), (0, u "java/lang/Object")] 32

/-- java/lang/constant/ConstantDesc -/
def k8 : Class := { plain "java/lang/constant/ConstantDesc" (some 0) with
  accessFlags := 1537
  interfaces := #[]
  cf := some (fileOf pool8 1 #[] #[] 1537 3 #[] #[])
  fields := #[]
  methods := #[]
  instanceTypes := #[]
  staticTypes := #[]
  resolved := Array.replicate 37 none
  statics := none }

def pool9 : Array CpInfo := pool [(2, .class_ 4), (1, u "java/lang/Object"), (0, u "<init>"), (0, u "()V"), (2, .fieldref 10 11), (0, .class_ 12), (0, .nameAndType 13 14), (0, u "java/lang/String"), (0, u "value"), (0, u "[B"), (0, .fieldref 10 16), (0, .nameAndType 17 18), (0, u "coder"), (0, u "B"), (2, u "hash"), (0, u "I"), (2, u "hashIsZero"), (0, u "Z"), (11, .fieldref 10 39), (0, .nameAndType 40 26), (0, u "COMPACT_STRINGS"), (66, .class_ 109), (1, u "java/lang/StringLatin1"), (32, u "()Z"), (191, u "()I"), (0, .methodref 10 336), (0, .nameAndType 17 337), (0, u "()B"), (25, u "([BI)C"), (27, u "(II)V"), (35, u "(I)C"), (64, .methodref 10 493), (0, .nameAndType 494 142), (0, u "isLatin1"), (0, .methodref 107 496), (0, .nameAndType 497 363), (0, u "charAt"), (3, u "checkIndex"), (5, u "length"), (67, .class_ 576), (0, u "java/lang/CharSequence"), (22, u "CASE_INSENSITIVE_ORDER"), (0, u "Ljava/util/Comparator;"), (452, .fieldref 1054 1055), (0, .class_ 1056), (0, .nameAndType 1057 1058), (0, u "jdk/internal/util/Preconditions"), (0, u "SIOOBE_FORMATTER"), (0, u "Ljava/util/function/BiFunction;"), (0, .methodref 1054 1060), (0, .nameAndType 501 1061), (0, u "(IILjava/util/function/BiFunction;)I"), (39, u "serialPersistentFields"), (0, u "[Ljava/io/ObjectStreamField;"), (0, .class_ 1104), (0, u "java/lang/String$CaseInsensitiveComparator"), (1, .class_ 1107), (0, u "java/io/Serializable"), (0, .class_ 1109), (0, u "java/lang/Comparable"), (0, .class_ 1111), (0, u "java/lang/constant/Constable"), (0, .class_ 1113), (0, u "java/lang/constant/ConstantDesc"), (2, u "serialVersionUID"), (0, u "J"), (3, u "REPL"), (0, u "C"), (2, u "LATIN1"), (1, u "UTF16")] 323

def k9m0 : Method := { name := "<init>", desc := "()V", sig := { parameters := [], returnType := none }, accessFlags := 1, code := none }
def k9c1 : Code := { maxStack := 2, maxLocals := 1, code := jdk_42_method_54_code, exceptionTable := #[], attributes := #[] }
def k9m1 : Method := { name := "length", desc := "()I", sig := { parameters := [], returnType := some .int }, accessFlags := 1, code := some k9c1 }
def k9c2 : Code := { maxStack := 2, maxLocals := 2, code := jdk_42_method_56_code, exceptionTable := #[], attributes := #[] }
def k9m2 : Method := { name := "charAt", desc := "(I)C", sig := { parameters := [.int], returnType := some .char }, accessFlags := 1, code := some k9c2 }
def k9c3 : Code := { maxStack := 1, maxLocals := 1, code := jdk_42_method_152_code, exceptionTable := #[], attributes := #[] }
def k9m3 : Method := { name := "coder", desc := "()B", sig := { parameters := [], returnType := some .byte }, accessFlags := 0, code := some k9c3 }
def k9c4 : Code := { maxStack := 1, maxLocals := 1, code := jdk_42_method_154_code, exceptionTable := #[], attributes := #[] }
def k9m4 : Method := { name := "isLatin1", desc := "()Z", sig := { parameters := [], returnType := some .boolean }, accessFlags := 0, code := some k9c4 }
def k9c5 : Code := { maxStack := 3, maxLocals := 2, code := jdk_42_method_155_code, exceptionTable := #[], attributes := #[] }
def k9m5 : Method := { name := "checkIndex", desc := "(II)V", sig := { parameters := [.int, .int], returnType := none }, accessFlags := 8, code := some k9c5 }
/-- java/lang/String -/
def k9 : Class := { plain "java/lang/String" (some 0) with
  accessFlags := 49
  interfaces := #[4, 3, 7, 2, 8]
  cf := some (fileOf pool9 10 #[.nestMembers #[1103]] #[{ accessFlags := 1, nameIndex := 5, descriptorIndex := 6, attributes := #[] }, { accessFlags := 1, nameIndex := 507, descriptorIndex := 334, attributes := #[] }, { accessFlags := 1, nameIndex := 497, descriptorIndex := 427, attributes := #[] }, { accessFlags := 0, nameIndex := 17, descriptorIndex := 337, attributes := #[] }, { accessFlags := 0, nameIndex := 494, descriptorIndex := 142, attributes := #[] }, { accessFlags := 8, nameIndex := 501, descriptorIndex := 391, attributes := #[] }] 49 2 #[1106, 1108, 575, 1110, 1112] #[{ accessFlags := 18, nameIndex := 13, descriptorIndex := 14, attributes := #[] }, { accessFlags := 18, nameIndex := 17, descriptorIndex := 18, attributes := #[] }, { accessFlags := 2, nameIndex := 21, descriptorIndex := 22, attributes := #[] }, { accessFlags := 2, nameIndex := 25, descriptorIndex := 26, attributes := #[] }, { accessFlags := 26, nameIndex := 1116, descriptorIndex := 1117, attributes := #[] }, { accessFlags := 24, nameIndex := 40, descriptorIndex := 26, attributes := #[] }, { accessFlags := 26, nameIndex := 1101, descriptorIndex := 1102, attributes := #[] }, { accessFlags := 26, nameIndex := 1121, descriptorIndex := 1122, attributes := #[] }, { accessFlags := 25, nameIndex := 599, descriptorIndex := 600, attributes := #[] }, { accessFlags := 24, nameIndex := 1125, descriptorIndex := 18, attributes := #[] }, { accessFlags := 24, nameIndex := 1127, descriptorIndex := 18, attributes := #[] }])
  fields := #[{ name := "value", type := (.array .byte), accessFlags := 18, slot := 0, constantValue := 0 }, { name := "coder", type := .byte, accessFlags := 18, slot := 1, constantValue := 0 }, { name := "hash", type := .int, accessFlags := 2, slot := 2, constantValue := 0 }, { name := "hashIsZero", type := .boolean, accessFlags := 2, slot := 3, constantValue := 0 }, { name := "serialVersionUID", type := .long, accessFlags := 26, slot := 0, constantValue := 0 }, { name := "COMPACT_STRINGS", type := .boolean, accessFlags := 24, slot := 1, constantValue := 0 }, { name := "serialPersistentFields", type := (.array (.object "java/io/ObjectStreamField")), accessFlags := 26, slot := 2, constantValue := 0 }, { name := "REPL", type := .char, accessFlags := 26, slot := 3, constantValue := 0 }, { name := "CASE_INSENSITIVE_ORDER", type := (.object "java/util/Comparator"), accessFlags := 25, slot := 4, constantValue := 0 }, { name := "LATIN1", type := .byte, accessFlags := 24, slot := 5, constantValue := 0 }, { name := "UTF16", type := .byte, accessFlags := 24, slot := 6, constantValue := 0 }]
  methods := #[k9m0, k9m1, k9m2, k9m3, k9m4, k9m5]
  instanceTypes := #[(.array .byte), .byte, .int, .boolean]
  staticTypes := #[.long, .boolean, (.array (.object "java/io/ObjectStreamField")), .char, (.object "java/util/Comparator"), .byte, .byte]
  resolved := Array.replicate 1451 none
  statics := some 1 }

def pool10 : Array CpInfo := pool [(1, .class_ 2), (0, u "java/lang/String"), (1, .class_ 6), (1, u "java/lang/Object"), (0, u "<init>"), (0, u "()V"), (0, .methodref 1 10), (0, .nameAndType 11 12), (0, u "checkIndex"), (0, u "(II)V"), (1, .class_ 16), (1, u "java/lang/StringLatin1"), (36, u "([BI)C"), (67, u "$assertionsDisabled"), (0, u "Z"), (98, .class_ 223), (1, u "java/lang/StringLatin1$LinesSpliterator"), (28, u "charAt"), (137, .class_ 391), (0, u "java/lang/StringLatin1$CharsSpliterator")] 3

def k10m0 : Method := { name := "<init>", desc := "()V", sig := { parameters := [], returnType := none }, accessFlags := 0, code := none }
def k10c1 : Code := { maxStack := 2, maxLocals := 2, code := jdk_43_method_2_code, exceptionTable := #[], attributes := #[] }
def k10m1 : Method := { name := "charAt", desc := "([BI)C", sig := { parameters := [(.array .byte), .int], returnType := some .char }, accessFlags := 9, code := some k10c1 }
/-- java/lang/StringLatin1 -/
def k10 : Class := { plain "java/lang/StringLatin1" (some 0) with
  accessFlags := 48
  interfaces := #[]
  cf := some (fileOf pool10 14 #[.nestMembers #[390, 221]] #[{ accessFlags := 0, nameIndex := 7, descriptorIndex := 8, attributes := #[] }, { accessFlags := 9, nameIndex := 252, descriptorIndex := 53, attributes := #[] }] 48 4 #[] #[{ accessFlags := 4120, nameIndex := 121, descriptorIndex := 122, attributes := #[] }])
  fields := #[{ name := "$assertionsDisabled", type := .boolean, accessFlags := 4120, slot := 0, constantValue := 0 }]
  methods := #[k10m0, k10m1]
  instanceTypes := #[]
  staticTypes := #[.boolean]
  resolved := Array.replicate 395 none
  statics := none }

def pool11 : Array CpInfo := pool [(2, .class_ 4), (1, u "java/lang/Object"), (0, u "<init>"), (0, u "()V"), (17, .class_ 26), (1, u "jdk/internal/util/Preconditions"), (6, u "checkIndex"), (21, .class_ 56), (0, u "jdk/internal/util/Preconditions$4"), (57, .class_ 115), (0, u "jdk/internal/util/Preconditions$1"), (7, u "SIOOBE_FORMATTER"), (0, u "Ljava/util/function/BiFunction;"), (0, .class_ 126), (0, u "jdk/internal/util/Preconditions$2"), (3, u "AIOOBE_FORMATTER"), (0, .class_ 132), (0, u "jdk/internal/util/Preconditions$3"), (3, u "IOOBE_FORMATTER"), (41, u "(IILjava/util/function/BiFunction;)I")] 15

def k11m0 : Method := { name := "<init>", desc := "()V", sig := { parameters := [], returnType := none }, accessFlags := 1, code := none }
def k11c1 : Code := { maxStack := 3, maxLocals := 3, code := jdk_41_method_11_code, exceptionTable := #[], attributes := #[] }
def k11m1 : Method := { name := "checkIndex", desc := "(IILjava/util/function/BiFunction;)I", sig := { parameters := [.int, .int, (.object "java/util/function/BiFunction")], returnType := some .int }, accessFlags := 9, code := some k11c1 }
/-- jdk/internal/util/Preconditions -/
def k11 : Class := { plain "jdk/internal/util/Preconditions" (some 0) with
  accessFlags := 33
  interfaces := #[]
  cf := some (fileOf pool11 24 #[.nestMembers #[55, 131, 125, 114]] #[{ accessFlags := 1, nameIndex := 5, descriptorIndex := 6, attributes := #[] }, { accessFlags := 9, nameIndex := 33, descriptorIndex := 178, attributes := #[] }] 33 2 #[] #[{ accessFlags := 25, nameIndex := 123, descriptorIndex := 124, attributes := #[] }, { accessFlags := 25, nameIndex := 130, descriptorIndex := 124, attributes := #[] }, { accessFlags := 25, nameIndex := 136, descriptorIndex := 124, attributes := #[] }])
  fields := #[{ name := "SIOOBE_FORMATTER", type := (.object "java/util/function/BiFunction"), accessFlags := 25, slot := 0, constantValue := 0 }, { name := "AIOOBE_FORMATTER", type := (.object "java/util/function/BiFunction"), accessFlags := 25, slot := 1, constantValue := 0 }, { name := "IOOBE_FORMATTER", type := (.object "java/util/function/BiFunction"), accessFlags := 25, slot := 2, constantValue := 0 }]
  methods := #[k11m0, k11m1]
  instanceTypes := #[]
  staticTypes := #[(.object "java/util/function/BiFunction"), (.object "java/util/function/BiFunction"), (.object "java/util/function/BiFunction")]
  resolved := Array.replicate 194 none
  statics := some 2 }

def pool12 : Array CpInfo := pool [(9, u "<init>"), (6, .class_ 18), (1, u "java/lang/Object"), (0, u "()V"), (1, .class_ 23), (1, u "jdk/internal/util/ArraysSupport"), (0, u "LOG2_ARRAY_LONG_INDEX_SCALE"), (0, u "I"), (2, u "U"), (0, u "Ljdk/internal/misc/Unsafe;"), (8, u "BIG_ENDIAN"), (0, u "Z"), (8, u "LOG2_BYTE_BIT_SIZE"), (4, u "LOG2_ARRAY_INT_INDEX_SCALE"), (54, u "JLA"), (0, u "Ljdk/internal/access/JavaLangAccess;"), (11, u "LOG2_ARRAY_BOOLEAN_INDEX_SCALE"), (9, u "LOG2_ARRAY_BYTE_INDEX_SCALE"), (5, u "LOG2_ARRAY_CHAR_INDEX_SCALE"), (5, u "LOG2_ARRAY_SHORT_INDEX_SCALE"), (18, u "LOG2_ARRAY_FLOAT_INDEX_SCALE"), (24, u "LOG2_ARRAY_DOUBLE_INDEX_SCALE"), (89, u "T_BOOLEAN"), (2, u "T_CHAR"), (1, u "T_FLOAT"), (1, u "T_DOUBLE"), (1, u "T_BYTE"), (1, u "T_SHORT"), (1, u "T_INT"), (1, u "T_LONG"), (1, u "SOFT_MAX_ARRAY_LENGTH")] 83

def k12m0 : Method := { name := "<init>", desc := "()V", sig := { parameters := [], returnType := none }, accessFlags := 2, code := none }
/-- jdk/internal/util/ArraysSupport -/
def k12 : Class := { plain "jdk/internal/util/ArraysSupport" (some 0) with
  accessFlags := 33
  interfaces := #[]
  cf := some (fileOf pool12 21 #[] #[{ accessFlags := 2, nameIndex := 9, descriptorIndex := 19, attributes := #[] }] 33 16 #[] #[{ accessFlags := 24, nameIndex := 28, descriptorIndex := 29, attributes := #[] }, { accessFlags := 26, nameIndex := 38, descriptorIndex := 39, attributes := #[] }, { accessFlags := 25, nameIndex := 121, descriptorIndex := 25, attributes := #[] }, { accessFlags := 25, nameIndex := 131, descriptorIndex := 25, attributes := #[] }, { accessFlags := 25, nameIndex := 137, descriptorIndex := 25, attributes := #[] }, { accessFlags := 25, nameIndex := 143, descriptorIndex := 25, attributes := #[] }, { accessFlags := 25, nameIndex := 53, descriptorIndex := 25, attributes := #[] }, { accessFlags := 25, nameIndex := 24, descriptorIndex := 25, attributes := #[] }, { accessFlags := 25, nameIndex := 162, descriptorIndex := 25, attributes := #[] }, { accessFlags := 25, nameIndex := 187, descriptorIndex := 25, attributes := #[] }, { accessFlags := 26, nameIndex := 48, descriptorIndex := 25, attributes := #[] }, { accessFlags := 25, nameIndex := 277, descriptorIndex := 25, attributes := #[] }, { accessFlags := 25, nameIndex := 280, descriptorIndex := 25, attributes := #[] }, { accessFlags := 25, nameIndex := 282, descriptorIndex := 25, attributes := #[] }, { accessFlags := 25, nameIndex := 284, descriptorIndex := 25, attributes := #[] }, { accessFlags := 25, nameIndex := 286, descriptorIndex := 25, attributes := #[] }, { accessFlags := 25, nameIndex := 288, descriptorIndex := 25, attributes := #[] }, { accessFlags := 25, nameIndex := 290, descriptorIndex := 25, attributes := #[] }, { accessFlags := 25, nameIndex := 292, descriptorIndex := 25, attributes := #[] }, { accessFlags := 26, nameIndex := 108, descriptorIndex := 109, attributes := #[] }, { accessFlags := 25, nameIndex := 294, descriptorIndex := 25, attributes := #[] }])
  fields := #[{ name := "U", type := (.object "jdk/internal/misc/Unsafe"), accessFlags := 24, slot := 0, constantValue := 0 }, { name := "BIG_ENDIAN", type := .boolean, accessFlags := 26, slot := 1, constantValue := 0 }, { name := "LOG2_ARRAY_BOOLEAN_INDEX_SCALE", type := .int, accessFlags := 25, slot := 2, constantValue := 0 }, { name := "LOG2_ARRAY_BYTE_INDEX_SCALE", type := .int, accessFlags := 25, slot := 3, constantValue := 0 }, { name := "LOG2_ARRAY_CHAR_INDEX_SCALE", type := .int, accessFlags := 25, slot := 4, constantValue := 0 }, { name := "LOG2_ARRAY_SHORT_INDEX_SCALE", type := .int, accessFlags := 25, slot := 5, constantValue := 0 }, { name := "LOG2_ARRAY_INT_INDEX_SCALE", type := .int, accessFlags := 25, slot := 6, constantValue := 0 }, { name := "LOG2_ARRAY_LONG_INDEX_SCALE", type := .int, accessFlags := 25, slot := 7, constantValue := 0 }, { name := "LOG2_ARRAY_FLOAT_INDEX_SCALE", type := .int, accessFlags := 25, slot := 8, constantValue := 0 }, { name := "LOG2_ARRAY_DOUBLE_INDEX_SCALE", type := .int, accessFlags := 25, slot := 9, constantValue := 0 }, { name := "LOG2_BYTE_BIT_SIZE", type := .int, accessFlags := 26, slot := 10, constantValue := 0 }, { name := "T_BOOLEAN", type := .int, accessFlags := 25, slot := 11, constantValue := 0 }, { name := "T_CHAR", type := .int, accessFlags := 25, slot := 12, constantValue := 0 }, { name := "T_FLOAT", type := .int, accessFlags := 25, slot := 13, constantValue := 0 }, { name := "T_DOUBLE", type := .int, accessFlags := 25, slot := 14, constantValue := 0 }, { name := "T_BYTE", type := .int, accessFlags := 25, slot := 15, constantValue := 0 }, { name := "T_SHORT", type := .int, accessFlags := 25, slot := 16, constantValue := 0 }, { name := "T_INT", type := .int, accessFlags := 25, slot := 17, constantValue := 0 }, { name := "T_LONG", type := .int, accessFlags := 25, slot := 18, constantValue := 0 }, { name := "JLA", type := (.object "jdk/internal/access/JavaLangAccess"), accessFlags := 26, slot := 19, constantValue := 0 }, { name := "SOFT_MAX_ARRAY_LENGTH", type := .int, accessFlags := 25, slot := 20, constantValue := 0 }]
  methods := #[k12m0]
  instanceTypes := #[]
  staticTypes := #[(.object "jdk/internal/misc/Unsafe"), .boolean, .int, .int, .int, .int, .int, .int, .int, .int, .int, .int, .int, .int, .int, .int, .int, .int, .int, (.object "jdk/internal/access/JavaLangAccess"), .int]
  resolved := Array.replicate 378 none
  statics := none }

def pool13 : Array CpInfo := pool [(1, u "java/lang/Cloneable"), (0, .class_ 1), (0, u "java/lang/Object"), (0, .class_ 3)] 3

/-- java/lang/Cloneable -/
def k13 : Class := { plain "java/lang/Cloneable" (some 0) with
  accessFlags := 1537
  interfaces := #[]
  cf := some (fileOf pool13 2 #[] #[] 1537 4 #[] #[])
  fields := #[]
  methods := #[]
  instanceTypes := #[]
  staticTypes := #[]
  resolved := Array.replicate 8 none
  statics := none }

/-- the primitive byte -/
def k14 : Class := { plain "byte" none with kind := .primitive 'B', accessFlags := 0x411 }
/-- [B -/
def k15 : Class := { plain "[B" (some 0) with kind := .array 14 .byte, interfaces := #[13, 4], accessFlags := 1041 }

/-- the primitive int -/
def k16 : Class := { plain "int" none with kind := .primitive 'I', accessFlags := 0x411 }
/-- [I -/
def k17 : Class := { plain "[I" (some 0) with kind := .array 16 .int, interfaces := #[13, 4], accessFlags := 1041 }

def heap : Heap := #[{ cls := 6, slots := #[.ref 3, .ref 12, .ref 9, .ref 6, .null], vm := .statics 6 },
  { cls := 9, slots := #[.long 0, .int 1, .null, .int 0, .null, .int 0, .int 0], vm := .statics 9 },
  { cls := 11, slots := #[.null, .null, .null], vm := .statics 11 },
  { cls := 6, slots := #[.null, .int 0, .int 0, .ref 4, .null], vm := .none },
  { cls := 9, slots := #[.ref 5, .int 0, .int 0, .int 0], vm := .none },
  { cls := 15, slots := #[.int 117, .int 115, .int 97, .int 103, .int 101, .int 95, .int 109, .int 51], vm := .none },
  { cls := 6, slots := #[.null, .int 3, .int 0, .ref 7, .null], vm := .none },
  { cls := 9, slots := #[.ref 8, .int 0, .int 0, .int 0], vm := .none },
  { cls := 15, slots := #[.int 103, .int 97, .int 115, .int 95, .int 112, .int 97, .int 114, .int 116, .int 95, .int 121, .int 101, .int 110], vm := .none },
  { cls := 6, slots := #[.null, .int 2, .int 0, .ref 10, .null], vm := .none },
  { cls := 9, slots := #[.ref 11, .int 0, .int 0, .int 0], vm := .none },
  { cls := 15, slots := #[.int 116, .int 97, .int 120, .int 95, .int 121, .int 101, .int 110], vm := .none },
  { cls := 6, slots := #[.null, .int 1, .int 0, .ref 13, .null], vm := .none },
  { cls := 9, slots := #[.ref 14, .int 0, .int 0, .int 0], vm := .none },
  { cls := 15, slots := #[.int 99, .int 104, .int 97, .int 114, .int 103, .int 101, .int 95, .int 121, .int 101, .int 110], vm := .none }]
def classes : Array Class := #[k0, k1, k2, k3, k4, k5, k6, k7, k8, k9, k10, k11, k12, k13, k14, k15, k16, k17]
def interned : List (Array UInt16 × Addr) := []
def slotsUsed : Nat := 88
def theMethod : MethodId := ⟨1, 3⟩
def args0 : Array Value := #[.int 5]
def aboutOver (below : List Frame) : State where
  vm := { classes := classes, interned := interned.toArray }
  heap := heap
  slotsUsed := slotsUsed
  threads := #[{ frames := .invoking theMethod args0 :: below }]
def below0 : List Frame := [.native { method := ⟨0, 0⟩, args := #[] }]
def about1 : State := aboutOver below0
def p0 : Program := .bare "" "" ""
def e0 : Env := launch0.env 0 0 0
theorem w_frames : about1.frames = Frame.invoking theMethod args0 :: below0 := rfl
set_option maxRecDepth 65536 in
theorem w_args : argsFit about1.vm theMethod args0 = true := by decide +kernel
set_option maxRecDepth 65536 in
theorem w_heap : heapFits about1 = true := by decide +kernel
set_option maxRecDepth 65536 in
theorem w_runnable : about1.curStatus? = some .runnable := by decide +kernel
set_option maxRecDepth 65536 in
theorem w_alone : about1.alone = true := by decide +kernel
set_option maxRecDepth 65536 in
theorem w_named : about1.methodNamed? x = some theMethod := by decide +kernel
set_option maxRecDepth 65536 in
theorem w_hears : about1.hears theMethod below0 = true := by decide +kernel
set_option maxRecDepth 65536 in
theorem w_ripe : about1.ripe theMethod args0 below0 = true := by decide +kernel
theorem w_running : about1.status = .running := rfl
set_option maxRecDepth 65536 in
theorem w_room : about1.hasRoom e0.platform room_1 = true :=
  launch0.hasRoom_least _ room_1 (by decide +kernel) (by decide +kernel) (by decide +kernel) (by decide +kernel) (by decide +kernel) (by decide +kernel)
theorem allAtoms_all (ts : List Jvm.Cond) (a : Array Jvm.Value) (st : Jvm.State) : (allAtoms ts).before a st = ts.all (fun c => c.before a st) := by
  induction ts with
  | nil => rfl
  | cons c t ih =>
    show (Jvm.Cond.and c (allAtoms t)).before a st = _
    rw [Jvm.Cond.before_and, ih, List.all_cons]
def words1 : List Jvm.Cond := Jvm.Cond.code x code maxLocals ret :: tables_1
/-- a 'code' word, met by the world's own term for the bytes: nothing is compared byte by byte -/
theorem code_word {y : MethodName} {bytes : ByteArray} {mx : Nat} {rt : Option FieldType} {a : Array Value} {s : State} {m : MethodId} {meth : Method} {c : Code} (h1 : s.methodNamed? y = some m) (h2 : s.vm.method? m = some meth) (h3 : meth.code = some c) (h4 : c.code = bytes)
    (h5 : (c.maxLocals == mx && c.exceptionTable.isEmpty && decide (c.maxStack ≤ mostOperands) && decide (meth.sig.returnType = rt) && !meth.locks && decide (parseMethodDescriptor y.desc = some meth.sig)) = true) : (Jvm.Cond.code y bytes mx rt).before a s = true := by
  simp only [Bool.and_eq_true, beq_iff_eq, Bool.not_eq_true', decide_eq_true_eq] at h5
  obtain ⟨⟨⟨⟨⟨g1, g2⟩, g3⟩, g4⟩, g5⟩, g6⟩ := h5
  simp [Cond.before, Cond.holds, Cond.value, h1, h2, h3, h4, g1, g2, g3, g4, g5, g6]
def isCode : Jvm.Cond → Bool
  | .code _ _ _ _ => true
  | _ => false
theorem all_split {L : List Jvm.Cond} {P : Jvm.Cond → Bool} (h1 : L.all (fun c => isCode c || P c) = true) (h2 : ∀ c ∈ L.filter isCode, P c = true) : L.all P = true := by
  refine List.all_eq_true.mpr fun c hc => ?_
  have h := List.all_eq_true.mp h1 c hc
  rcases Bool.eq_false_or_eq_true (isCode c) with hi | hi
  · exact h2 c (List.mem_filter.mpr ⟨hc, hi⟩)
  · simpa [hi] using h
set_option maxRecDepth 65536 in
theorem w_c0 : (Jvm.Cond.code x code maxLocals ret).before args0 about1 = true := code_word (m := ⟨1, 3⟩) (meth := k1m3) (c := k1c3) (by decide +kernel) rfl rfl rfl (by decide +kernel)
set_option maxRecDepth 65536 in
theorem w_c1 : (Jvm.Cond.code ({ cls := "com/example/strict_tariff/stricttariff/pricing/ColumnIsAmountPinLaw", name := "pick", desc := "(I)Lcom/example/strict_tariff/stricttariff/pricing/Column;" } : Jvm.MethodName) method_2_code (1 : Nat) (Option.some (Jvm.ClassFile.FieldType.object "com/example/strict_tariff/stricttariff/pricing/Column"))).before args0 about1 = true := code_word (m := ⟨1, 1⟩) (meth := k1m1) (c := k1c1) (by decide +kernel) rfl rfl rfl (by decide +kernel)
set_option maxRecDepth 65536 in
theorem w_c2 : (Jvm.Cond.code ({ cls := "com/example/strict_tariff/stricttariff/pricing/Column", name := "header", desc := "()Ljava/lang/String;" } : Jvm.MethodName) prog_4_method_4_code (1 : Nat) (Option.some (Jvm.ClassFile.FieldType.object "java/lang/String"))).before args0 about1 = true := code_word (m := ⟨6, 0⟩) (meth := k6m0) (c := k6c0) (by decide +kernel) rfl rfl rfl (by decide +kernel)
set_option maxRecDepth 65536 in
theorem w_c3 : (Jvm.Cond.code ({ cls := "com/example/strict_tariff/stricttariff/pricing/ColumnIsAmountPinLaw", name := "endsInYen", desc := "(Ljava/lang/String;)Z" } : Jvm.MethodName) method_3_code (2 : Nat) (Option.some Jvm.ClassFile.FieldType.boolean)).before args0 about1 = true := code_word (m := ⟨1, 2⟩) (meth := k1m2) (c := k1c2) (by decide +kernel) rfl rfl rfl (by decide +kernel)
set_option maxRecDepth 65536 in
theorem w_c4 : (Jvm.Cond.code ({ cls := "java/lang/String", name := "length", desc := "()I" } : Jvm.MethodName) jdk_42_method_54_code (1 : Nat) (Option.some Jvm.ClassFile.FieldType.int)).before args0 about1 = true := code_word (m := ⟨9, 1⟩) (meth := k9m1) (c := k9c1) (by decide +kernel) rfl rfl rfl (by decide +kernel)
set_option maxRecDepth 65536 in
theorem w_c5 : (Jvm.Cond.code ({ cls := "java/lang/String", name := "coder", desc := "()B" } : Jvm.MethodName) jdk_42_method_152_code (1 : Nat) (Option.some Jvm.ClassFile.FieldType.byte)).before args0 about1 = true := code_word (m := ⟨9, 3⟩) (meth := k9m3) (c := k9c3) (by decide +kernel) rfl rfl rfl (by decide +kernel)
set_option maxRecDepth 65536 in
theorem w_c6 : (Jvm.Cond.code ({ cls := "java/lang/String", name := "charAt", desc := "(I)C" } : Jvm.MethodName) jdk_42_method_56_code (2 : Nat) (Option.some Jvm.ClassFile.FieldType.char)).before args0 about1 = true := code_word (m := ⟨9, 2⟩) (meth := k9m2) (c := k9c2) (by decide +kernel) rfl rfl rfl (by decide +kernel)
set_option maxRecDepth 65536 in
theorem w_c7 : (Jvm.Cond.code ({ cls := "java/lang/String", name := "isLatin1", desc := "()Z" } : Jvm.MethodName) jdk_42_method_154_code (1 : Nat) (Option.some Jvm.ClassFile.FieldType.boolean)).before args0 about1 = true := code_word (m := ⟨9, 4⟩) (meth := k9m4) (c := k9c4) (by decide +kernel) rfl rfl rfl (by decide +kernel)
set_option maxRecDepth 65536 in
theorem w_c8 : (Jvm.Cond.code ({ cls := "java/lang/StringLatin1", name := "charAt", desc := "([BI)C" } : Jvm.MethodName) jdk_43_method_2_code (2 : Nat) (Option.some Jvm.ClassFile.FieldType.char)).before args0 about1 = true := code_word (m := ⟨10, 1⟩) (meth := k10m1) (c := k10c1) (by decide +kernel) rfl rfl rfl (by decide +kernel)
set_option maxRecDepth 65536 in
theorem w_c9 : (Jvm.Cond.code ({ cls := "java/lang/String", name := "checkIndex", desc := "(II)V" } : Jvm.MethodName) jdk_42_method_155_code (2 : Nat) (Option.none : Option Jvm.ClassFile.FieldType)).before args0 about1 = true := code_word (m := ⟨9, 5⟩) (meth := k9m5) (c := k9c5) (by decide +kernel) rfl rfl rfl (by decide +kernel)
set_option maxRecDepth 65536 in
theorem w_c10 : (Jvm.Cond.code ({ cls := "jdk/internal/util/Preconditions", name := "checkIndex", desc := "(IILjava/util/function/BiFunction;)I" } : Jvm.MethodName) jdk_41_method_11_code (3 : Nat) (Option.some Jvm.ClassFile.FieldType.int)).before args0 about1 = true := code_word (m := ⟨11, 1⟩) (meth := k11m1) (c := k11c1) (by decide +kernel) rfl rfl rfl (by decide +kernel)
set_option maxRecDepth 65536 in
theorem w_c11 : (Jvm.Cond.code ({ cls := "com/example/strict_tariff/stricttariff/pricing/Column", name := "isAmount", desc := "()Z" } : Jvm.MethodName) prog_4_method_5_code (1 : Nat) (Option.some Jvm.ClassFile.FieldType.boolean)).before args0 about1 = true := code_word (m := ⟨6, 1⟩) (meth := k6m1) (c := k6c1) (by decide +kernel) rfl rfl rfl (by decide +kernel)
def codes1 : List Jvm.Cond := [Jvm.Cond.code x code maxLocals ret, Jvm.Cond.code ({ cls := "com/example/strict_tariff/stricttariff/pricing/ColumnIsAmountPinLaw", name := "pick", desc := "(I)Lcom/example/strict_tariff/stricttariff/pricing/Column;" } : Jvm.MethodName) method_2_code (1 : Nat) (Option.some (Jvm.ClassFile.FieldType.object "com/example/strict_tariff/stricttariff/pricing/Column")), Jvm.Cond.code ({ cls := "com/example/strict_tariff/stricttariff/pricing/Column", name := "header", desc := "()Ljava/lang/String;" } : Jvm.MethodName) prog_4_method_4_code (1 : Nat) (Option.some (Jvm.ClassFile.FieldType.object "java/lang/String")), Jvm.Cond.code ({ cls := "com/example/strict_tariff/stricttariff/pricing/ColumnIsAmountPinLaw", name := "endsInYen", desc := "(Ljava/lang/String;)Z" } : Jvm.MethodName) method_3_code (2 : Nat) (Option.some Jvm.ClassFile.FieldType.boolean), Jvm.Cond.code ({ cls := "java/lang/String", name := "length", desc := "()I" } : Jvm.MethodName) jdk_42_method_54_code (1 : Nat) (Option.some Jvm.ClassFile.FieldType.int), Jvm.Cond.code ({ cls := "java/lang/String", name := "coder", desc := "()B" } : Jvm.MethodName) jdk_42_method_152_code (1 : Nat) (Option.some Jvm.ClassFile.FieldType.byte), Jvm.Cond.code ({ cls := "java/lang/String", name := "charAt", desc := "(I)C" } : Jvm.MethodName) jdk_42_method_56_code (2 : Nat) (Option.some Jvm.ClassFile.FieldType.char), Jvm.Cond.code ({ cls := "java/lang/String", name := "isLatin1", desc := "()Z" } : Jvm.MethodName) jdk_42_method_154_code (1 : Nat) (Option.some Jvm.ClassFile.FieldType.boolean), Jvm.Cond.code ({ cls := "java/lang/StringLatin1", name := "charAt", desc := "([BI)C" } : Jvm.MethodName) jdk_43_method_2_code (2 : Nat) (Option.some Jvm.ClassFile.FieldType.char), Jvm.Cond.code ({ cls := "java/lang/String", name := "checkIndex", desc := "(II)V" } : Jvm.MethodName) jdk_42_method_155_code (2 : Nat) (Option.none : Option Jvm.ClassFile.FieldType), Jvm.Cond.code ({ cls := "jdk/internal/util/Preconditions", name := "checkIndex", desc := "(IILjava/util/function/BiFunction;)I" } : Jvm.MethodName) jdk_41_method_11_code (3 : Nat) (Option.some Jvm.ClassFile.FieldType.int), Jvm.Cond.code ({ cls := "com/example/strict_tariff/stricttariff/pricing/Column", name := "isAmount", desc := "()Z" } : Jvm.MethodName) prog_4_method_5_code (1 : Nat) (Option.some Jvm.ClassFile.FieldType.boolean)]
set_option maxRecDepth 65536 in
theorem codes_eq : words1.filter isCode = codes1 := rfl
theorem w_codes : ∀ c ∈ words1.filter isCode, c.before args0 about1 = true := by
  rw [codes_eq]
  intro c hc
  simp only [codes1, List.mem_cons, List.not_mem_nil, or_false] at hc
  rcases hc with rfl | rfl | rfl | rfl | rfl | rfl | rfl | rfl | rfl | rfl | rfl | rfl
  · exact w_c0
  · exact w_c1
  · exact w_c2
  · exact w_c3
  · exact w_c4
  · exact w_c5
  · exact w_c6
  · exact w_c7
  · exact w_c8
  · exact w_c9
  · exact w_c10
  · exact w_c11
set_option maxRecDepth 65536 in
theorem w_t1 : (words1.take 24).all (fun c => isCode c || c.before args0 about1) = true := by decide +kernel
set_option maxRecDepth 65536 in
theorem w_t2 : ((words1.drop 24).take 24).all (fun c => isCode c || c.before args0 about1) = true := by decide +kernel
set_option maxRecDepth 65536 in
theorem w_t3 : ((words1.drop 24).drop 24).all (fun c => isCode c || c.before args0 about1) = true := by decide +kernel
theorem w_tables : (allAtoms (Jvm.Cond.code x code maxLocals ret :: tables_1)).before args0 about1 = true := by
  rw [allAtoms_all]
  show words1.all (fun c => c.before args0 about1) = true
  refine all_split ?_ w_codes
  rw [← List.take_append_drop 24 words1, List.all_append, w_t1, ← List.take_append_drop 24 (words1.drop 24), List.all_append, w_t2, w_t3]
  rfl
set_option maxRecDepth 65536 in
theorem w_rest : rest_1_c.before args0 about1 = true := by decide +kernel
set_option maxRecDepth 65536 in
theorem w_case : (Jvm.Cond.and given_1 narrow_1).before args0 about1 = true := by decide +kernel
theorem w_applies : (headSpec (Jvm.Cond.code x code maxLocals ret :: tables_1) room_1).applies x e0.platform about1 = true :=
  (Spec.applies_iff w_frames).mpr ⟨w_running, w_runnable, w_alone, w_named, w_hears, w_ripe, w_room, w_tables⟩
theorem atStart : AtStart classFile x code maxLocals ret World_1 tables_1 room_1 Calls_1 rest_1 Pre_1 launch0 p0 e0 about1 theMethod args0 below0 :=
  ⟨lists_1, trivial, launch0.admits_env _ _ _, launch0.least_env, fairChoices_fair.cas, fairChoices_fair.clock, w_frames, w_args, w_heap, w_applies, trivial, w_rest, w_case⟩
end start1
theorem witness_1 : WitnessClaimed_1 := ⟨start1.p0, start1.e0, start1.about1, start1.theMethod, start1.args0, start1.below0, start1.atStart⟩
end Jvm.Pilot.@@N@@
