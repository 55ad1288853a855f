import JvmDerived
import JvmDerived.Pilot.@@N@@Statement
import JvmDerived.Pilot.@@N@@Code
set_option linter.unusedVariables false
set_option linter.unusedSimpArgs false
namespace Jvm.RoadKit
open Sem ClassFile Op Lib Jvm.Stand Jvm.Free Jvm.LawKit
section Own
variable {p : Program} {l : Launch} {e : Env} {R : Room} {s : State} {m : MethodId} {args : Array Value} {below : List Frame} {meth : Method} {c : Code} {T : State} {locs : List Loc} {cells slots : Nat}
/-- from S the run comes to an end of which K holds -/
def own_Go (p : Program) (e : Env) (below : List Frame) (K : State → Outcome → Prop) (S : State) : Prop := ∃ t o, Steps p.tables e below S t ∧ t.status = .running ∧ Ended t below o ∧ K t o
def own_K (s : State) (Q : Option Value → Heap → List Loc → Prop) (k n : Nat) (t : State) (o : Outcome) : Prop := ∃ v L, o = .returned v ∧ Q v t.heap L ∧ FrameEnd s o t L k n
theorem own_go {K : State → Outcome → Prop} {S S' : State} (h : ∀ t, Steps p.tables e below S' t → Steps p.tables e below S t) (g : own_Go p e below K S') : own_Go p e below K S := by
  obtain ⟨t, o, h1, h2⟩ := g; exact ⟨t, o, h t h1, h2⟩
theorem own_via {K : State → Outcome → Prop} {S S' : State} (h : Steps p.tables e below S S') (g : own_Go p e below K S') : own_Go p e below K S := by
  obtain ⟨t, o, h1, h2⟩ := g; exact ⟨t, o, h.trans h1, h2⟩
variable {Q : Option Value → Heap → List Loc → Prop} {k n : Nat}
theorem own_end (X : Stand p l e R s m args below meth c T locs cells slots) {v : Option Value} (hlk : meth.locks = false) (hv : meth.sig.returnType = none → v = none) (hk : cells ≤ k) (hn : slots ≤ n) (hQ : Q v T.heap locs) {S : State}
    (st : ∀ fs, (∀ (f : JFrame) (acts : List Action), f.method = m → f.locked = none → f.entered = [] → (doReturn e (T.setTop f) acts v).1 = T.setFrames fs) → Steps p.tables e below S (T.setFrames fs)) : own_Go p e below (own_K s Q k n) S := by
  obtain ⟨fs, hr, hrun, hended, hW, hsame⟩ := X.leave hv hlk
  exact ⟨_, _, st fs hr, hrun, hended, v, locs, rfl, hQ, ⟨_, rfl⟩, hW, hsame.mono hk hn⟩
theorem own_ret0 (X : Stand p l e R s m args below meth c T locs cells slots) (hx : p.tables.exec = Jvm.exec) (hlk : meth.locks = false) (hret : meth.sig.returnType = none) {pc : Nat} {Ls : Array Slot} (hd : decode c.code pc = .ok (.return_, 1)) (hk : cells ≤ k) (hn : slots ≤ n) (hQ : Q none T.heap locs) :
    own_Go p e below (own_K s Q k n) (T.setTop (mkF m pc Ls [])) := own_end X hlk (fun _ => rfl) hk hn hQ fun _ hr => X.returnOut hx hret hd hr
theorem own_retN (X : Stand p l e R s m args below meth c T locs cells slots) (hx : p.tables.exec = Jvm.exec) (hlk : meth.locks = false) {t : FieldType} (hret : meth.sig.returnType = some t) (ht : t = .boolean ∨ t = .byte ∨ t = .char ∨ t = .short) {pc : Nat} {Ls : Array Slot} {z : Int32} {rest : List Value} (hd : decode c.code pc = .ok (.ireturn, 1)) (hk : cells ≤ k) (hn : slots ≤ n) (hQ : Q (some (.int (nar t z))) T.heap locs) :
    own_Go p e below (own_K s Q k n) (T.setTop (mkF m pc Ls (.int z :: rest))) := own_end X hlk (fun h => by rw [hret] at h; cases h) hk hn hQ fun _ hr => retN X hx hret ht hd hr
theorem own_retI (X : Stand p l e R s m args below meth c T locs cells slots) (hx : p.tables.exec = Jvm.exec) (hlk : meth.locks = false) (hret : meth.sig.returnType = some .int) {pc : Nat} {Ls : Array Slot} {z : Int32} {rest : List Value} (hd : decode c.code pc = .ok (.ireturn, 1)) (hk : cells ≤ k) (hn : slots ≤ n) (hQ : Q (some (.int z)) T.heap locs) :
    own_Go p e below (own_K s Q k n) (T.setTop (mkF m pc Ls (.int z :: rest))) := own_end X hlk (fun h => by rw [hret] at h; cases h) hk hn hQ fun _ hr => retOut X hx hret rfl (Or.inl ⟨rfl, Or.inl rfl, z, rfl⟩) hd hr
theorem own_retJ (X : Stand p l e R s m args below meth c T locs cells slots) (hx : p.tables.exec = Jvm.exec) (hlk : meth.locks = false) (hret : meth.sig.returnType = some .long) {pc : Nat} {Ls : Array Slot} {z : Int64} {rest : List Value} (hd : decode c.code pc = .ok (.lreturn, 1)) (hk : cells ≤ k) (hn : slots ≤ n) (hQ : Q (some (.long z)) T.heap locs) :
    own_Go p e below (own_K s Q k n) (T.setTop (mkF m pc Ls (.long z :: rest))) := own_end X hlk (fun h => by rw [hret] at h; cases h) hk hn hQ fun _ hr => retOut X hx hret rfl (Or.inr (Or.inl ⟨rfl, rfl, z, rfl⟩)) hd hr
theorem own_retR (X : Stand p l e R s m args below meth c T locs cells slots) (hx : p.tables.exec = Jvm.exec) (hlk : meth.locks = false) {t : FieldType} (hret : meth.sig.returnType = some t) (ht : t.isReference = true) {pc : Nat} {Ls : Array Slot} {w : Value} {rest : List Value} (hw : w.isRef = true) (hd : decode c.code pc = .ok (.areturn, 1)) (hk : cells ≤ k) (hn : slots ≤ n) (hQ : Q (some w) T.heap locs) :
    own_Go p e below (own_K s Q k n) (T.setTop (mkF m pc Ls (w :: rest))) := own_end X hlk (fun h => by rw [hret] at h; cases h) hk hn hQ fun _ hr => retOut X hx hret (by cases t <;> first | rfl | cases ht) (Or.inr (Or.inr (Or.inr (Or.inr ⟨rfl, ht, hw⟩)))) hd hr
section Arrays
variable {Z : State} {h : Heap} {a : Addr} {k : ClassId} {ty : FieldType} {z : Int32} {vs : List Value} {dv : Value}
theorem own_iaload {g : JFrame} {target : State} (X : Stand p l e R s m args below meth c T locs cells slots) (hx : p.tables.exec = Jvm.exec) (hZ : Z.Warmed39 s.vm) (eT : T.heap = h) (F : Arv Z h a k .int z vs dv) (j : Int32) (v : Value) (hj : ¬ j < 0 ∧ j < z) (hat : vs.getD j.toNatClampNeg dv = v) (hg : g.method = m) {rest : List Value} (hs : g.stack = .int j :: .ref a :: rest) (hd : decode c.code g.pc = .ok (.iaload, 1))
    (hr : Steps p.tables e below (T.setTop { g with pc := g.pc + 1, stack := v :: rest }) target) : Steps p.tables e below (T.setTop g) target := by
  obtain ⟨cl, A, q, S, N, H, G⟩ := F
  have hi := inb_of S hj
  exact X.iaload hx (j := j) (v := v) (by rw [eT]; exact A.1) (State.isArrayOf_alike hZ.alike A.2.1) A.2.2 hi (Has.at H hi hat) hg hs hd _ hr
theorem own_caload {g : JFrame} {target : State} (X : Stand p l e R s m args below meth c T locs cells slots) (hx : p.tables.exec = Jvm.exec) (hZ : Z.Warmed39 s.vm) (eT : T.heap = h) (F : Arv Z h a k .char z vs dv) (j : Int32) (v : Value) (hj : ¬ j < 0 ∧ j < z) (hat : vs.getD j.toNatClampNeg dv = v) (hg : g.method = m) {rest : List Value} (hs : g.stack = .int j :: .ref a :: rest) (hd : decode c.code g.pc = .ok (.caload, 1))
    (hr : Steps p.tables e below (T.setTop { g with pc := g.pc + 1, stack := v :: rest }) target) : Steps p.tables e below (T.setTop g) target := by
  obtain ⟨cl, A, q, S, N, H, G⟩ := F
  have hi := inb_of S hj
  exact X.caload hx (j := j) (v := v) (by rw [eT]; exact A.1) (State.isArrayOf_alike hZ.alike A.2.1) A.2.2 hi (Has.at H hi hat) hg hs hd _ hr
theorem own_saload {g : JFrame} {target : State} (X : Stand p l e R s m args below meth c T locs cells slots) (hx : p.tables.exec = Jvm.exec) (hZ : Z.Warmed39 s.vm) (eT : T.heap = h) (F : Arv Z h a k .short z vs dv) (j : Int32) (v : Value) (hj : ¬ j < 0 ∧ j < z) (hat : vs.getD j.toNatClampNeg dv = v) (hg : g.method = m) {rest : List Value} (hs : g.stack = .int j :: .ref a :: rest) (hd : decode c.code g.pc = .ok (.saload, 1))
    (hr : Steps p.tables e below (T.setTop { g with pc := g.pc + 1, stack := v :: rest }) target) : Steps p.tables e below (T.setTop g) target := by
  obtain ⟨cl, A, q, S, N, H, G⟩ := F
  have hi := inb_of S hj
  exact X.saload hx (j := j) (v := v) (by rw [eT]; exact A.1) (State.isArrayOf_alike hZ.alike A.2.1) A.2.2 hi (Has.at H hi hat) hg hs hd _ hr
theorem own_baload {g : JFrame} {target : State} (X : Stand p l e R s m args below meth c T locs cells slots) (hx : p.tables.exec = Jvm.exec) (hZ : Z.Warmed39 s.vm) (eT : T.heap = h) (F : Arv Z h a k .byte z vs dv) (j : Int32) (v : Value) (hj : ¬ j < 0 ∧ j < z) (hat : vs.getD j.toNatClampNeg dv = v) (hg : g.method = m) {rest : List Value} (hs : g.stack = .int j :: .ref a :: rest) (hd : decode c.code g.pc = .ok (.baload, 1))
    (hr : Steps p.tables e below (T.setTop { g with pc := g.pc + 1, stack := v :: rest }) target) : Steps p.tables e below (T.setTop g) target := by
  obtain ⟨cl, A, q, S, N, H, G⟩ := F
  have hi := inb_of S hj
  exact X.baloadBytes hx (j := j) (v := v) (by rw [eT]; exact A.1) (State.isArrayOf_alike hZ.alike A.2.1) A.2.2 hi (Has.at H hi hat) hg hs hd _ hr
theorem own_zaload {g : JFrame} {target : State} (X : Stand p l e R s m args below meth c T locs cells slots) (hx : p.tables.exec = Jvm.exec) (hZ : Z.Warmed39 s.vm) (eT : T.heap = h) (F : Arv Z h a k .boolean z vs dv) (j : Int32) (v : Value) (hj : ¬ j < 0 ∧ j < z) (hat : vs.getD j.toNatClampNeg dv = v) (hg : g.method = m) {rest : List Value} (hs : g.stack = .int j :: .ref a :: rest) (hd : decode c.code g.pc = .ok (.baload, 1))
    (hr : Steps p.tables e below (T.setTop { g with pc := g.pc + 1, stack := v :: rest }) target) : Steps p.tables e below (T.setTop g) target := by
  obtain ⟨cl, A, q, S, N, H, G⟩ := F
  have hi := inb_of S hj
  exact X.baloadBooleans hx (j := j) (v := v) (by rw [eT]; exact A.1) (State.isArrayOf_alike hZ.alike A.2.1) A.2.2 hi (Has.at H hi hat) hg hs hd _ hr
theorem own_laload {g : JFrame} {target : State} (X : Stand p l e R s m args below meth c T locs cells slots) (hx : p.tables.exec = Jvm.exec) (hZ : Z.Warmed39 s.vm) (eT : T.heap = h) (F : Arv Z h a k .long z vs dv) (j : Int32) (v : Value) (hj : ¬ j < 0 ∧ j < z) (hat : vs.getD j.toNatClampNeg dv = v) (hg : g.method = m) {rest : List Value} (hs : g.stack = .int j :: .ref a :: rest) (hd : decode c.code g.pc = .ok (.laload, 1))
    (hr : Steps p.tables e below (T.setTop { g with pc := g.pc + 1, stack := v :: rest }) target) : Steps p.tables e below (T.setTop g) target := by
  obtain ⟨cl, A, q, S, N, H, G⟩ := F
  have hi := inb_of S hj
  exact X.laload hx (j := j) (v := v) (by rw [eT]; exact A.1) (State.isArrayOf_alike hZ.alike A.2.1) A.2.2 hi (Has.at H hi hat) hg hs hd _ hr
theorem own_aaload {g : JFrame} {target : State} (X : Stand p l e R s m args below meth c T locs cells slots) (hx : p.tables.exec = Jvm.exec) (hZ : Z.Warmed39 s.vm) (eT : T.heap = h) (F : Arv Z h a k ty z vs dv) (j : Int32) (v : Value) (hj : ¬ j < 0 ∧ j < z) (hat : vs.getD j.toNatClampNeg dv = v) (hty : ty.isReference = true) (hg : g.method = m) {rest : List Value} (hs : g.stack = .int j :: .ref a :: rest) (hd : decode c.code g.pc = .ok (.aaload, 1))
    (hr : Steps p.tables e below (T.setTop { g with pc := g.pc + 1, stack := v :: rest }) target) : Steps p.tables e below (T.setTop g) target := by
  obtain ⟨cl, A, q, S, N, H, G⟩ := F
  have hi := inb_of S hj
  exact X.aaload hx (j := j) (v := v) (by rw [eT]; exact A.1) (State.isArrayOf_alike hZ.alike A.2.1) hty A.2.2 hi (Has.at H hi hat) hg hs hd _ hr
theorem own_alen {g : JFrame} {target : State} (X : Stand p l e R s m args below meth c T locs cells slots) (hx : p.tables.exec = Jvm.exec) (hZ : Z.Warmed39 s.vm) (eT : T.heap = h) (F : Arv Z h a k ty z vs dv) (hg : g.method = m) {rest : List Value} (hs : g.stack = .ref a :: rest) (hd : decode c.code g.pc = .ok (.arraylength, 1))
    (hr : Steps p.tables e below (T.setTop { g with pc := g.pc + 1, stack := .int z :: rest }) target) : Steps p.tables e below (T.setTop g) target := by
  obtain ⟨cl, A, q, S, N, -, -⟩ := F
  exact X.arraylength hx (by rw [eT]; exact A.1) (State.isArrayOf_alike hZ.alike A.2.1) hg hs hd _ (by rw [len_of S N]; exact hr)
theorem own_stI {K : State → Outcome → Prop} {n0 : Nat} (X : Stand p l e R s m args below meth c T locs cells slots) (hx : p.tables.exec = Jvm.exec) (hZ : Z.Warmed39 s.vm) (eT : T.heap = h) (F : Arv Z h a k .int z vs dv) (j : Int32) (x : Int32) (i : Nat) (hj : ¬ j < 0 ∧ j < z) (hi : j.toNatClampNeg = i) (hl : i < vs.length) (vs' : List Value) (hv : vs.set i (.int x) = vs') (N : Fr n0 locs) (ge : n0 ≤ a) {pc : Nat} {Ls : Array Slot} {rest : List Value} (hd : decode c.code pc = .ok (.iastore, 1))
    (kk : ∀ (T' : State) (h' : Heap) (L' : List Loc), Stand p l e R s m args below meth c T' L' cells slots → T'.heap = h' → Wr h h' a i (.int x) → Fr n0 L' → Arv Z h' a k .int z vs' dv → own_Go p e below K (T'.setTop (mkF m (pc + 1) Ls rest))) : own_Go p e below K (T.setTop (mkF m pc Ls (.int x :: .int j :: .ref a :: rest))) := by
  obtain ⟨cl, A, q, S, M, H, G⟩ := F
  subst hi; subst hv
  obtain ⟨T', h', X', e', W, st⟩ := stI X hx hZ eT A (j := j) (inb_of S hj) (g := mkF m pc Ls (.int x :: .int j :: .ref a :: rest)) rfl rfl hd
  exact own_go st (kk T' h' _ X' e' W (Fr.snoc X' N ge) (Arv.set A q S M H G rfl W _ rfl hl))
theorem own_stJ {K : State → Outcome → Prop} {n0 : Nat} (X : Stand p l e R s m args below meth c T locs cells slots) (hx : p.tables.exec = Jvm.exec) (hZ : Z.Warmed39 s.vm) (eT : T.heap = h) (F : Arv Z h a k .long z vs dv) (j : Int32) (x : Int64) (i : Nat) (hj : ¬ j < 0 ∧ j < z) (hi : j.toNatClampNeg = i) (hl : i < vs.length) (vs' : List Value) (hv : vs.set i (.long x) = vs') (N : Fr n0 locs) (ge : n0 ≤ a) {pc : Nat} {Ls : Array Slot} {rest : List Value} (hd : decode c.code pc = .ok (.lastore, 1))
    (kk : ∀ (T' : State) (h' : Heap) (L' : List Loc), Stand p l e R s m args below meth c T' L' cells slots → T'.heap = h' → Wr h h' a i (.long x) → Fr n0 L' → Arv Z h' a k .long z vs' dv → own_Go p e below K (T'.setTop (mkF m (pc + 1) Ls rest))) : own_Go p e below K (T.setTop (mkF m pc Ls (.long x :: .int j :: .ref a :: rest))) := by
  obtain ⟨cl, A, q, S, M, H, G⟩ := F
  subst hi; subst hv
  obtain ⟨T', h', X', e', W, st⟩ := stJ X hx hZ eT A (j := j) (inb_of S hj) (g := mkF m pc Ls (.long x :: .int j :: .ref a :: rest)) rfl rfl hd
  exact own_go st (kk T' h' _ X' e' W (Fr.snoc X' N ge) (Arv.set A q S M H G rfl W _ rfl hl))
theorem own_stB {K : State → Outcome → Prop} {n0 : Nat} (X : Stand p l e R s m args below meth c T locs cells slots) (hx : p.tables.exec = Jvm.exec) (hZ : Z.Warmed39 s.vm) (eT : T.heap = h) (F : Arv Z h a k .byte z vs dv) (j : Int32) (x x' : Int32) (i : Nat) (hj : ¬ j < 0 ∧ j < z) (hi : j.toNatClampNeg = i) (hl : i < vs.length) (hn : nar .byte x = x') (vs' : List Value) (hv : vs.set i (.int x') = vs') (N : Fr n0 locs) (ge : n0 ≤ a) {pc : Nat} {Ls : Array Slot} {rest : List Value} (hd : decode c.code pc = .ok (.bastore, 1))
    (kk : ∀ (T' : State) (h' : Heap) (L' : List Loc), Stand p l e R s m args below meth c T' L' cells slots → T'.heap = h' → Wr h h' a i (.int x') → Fr n0 L' → Arv Z h' a k .byte z vs' dv → own_Go p e below K (T'.setTop (mkF m (pc + 1) Ls rest))) : own_Go p e below K (T.setTop (mkF m pc Ls (.int x :: .int j :: .ref a :: rest))) := by
  obtain ⟨cl, A, q, S, M, H, G⟩ := F
  subst hn; subst hi; subst hv
  obtain ⟨T', h', X', e', W, st⟩ := stB X hx hZ eT A (j := j) (inb_of S hj) (g := mkF m pc Ls (.int x :: .int j :: .ref a :: rest)) rfl rfl hd
  exact own_go st (kk T' h' _ X' e' W (Fr.snoc X' N ge) (Arv.set A q S M H G (fits_nar_byte _) W _ rfl hl))
theorem own_stZ {K : State → Outcome → Prop} {n0 : Nat} (X : Stand p l e R s m args below meth c T locs cells slots) (hx : p.tables.exec = Jvm.exec) (hZ : Z.Warmed39 s.vm) (eT : T.heap = h) (F : Arv Z h a k .boolean z vs dv) (j : Int32) (x x' : Int32) (i : Nat) (hj : ¬ j < 0 ∧ j < z) (hi : j.toNatClampNeg = i) (hl : i < vs.length) (hn : nar .boolean x = x') (vs' : List Value) (hv : vs.set i (.int x') = vs') (N : Fr n0 locs) (ge : n0 ≤ a) {pc : Nat} {Ls : Array Slot} {rest : List Value} (hd : decode c.code pc = .ok (.bastore, 1))
    (kk : ∀ (T' : State) (h' : Heap) (L' : List Loc), Stand p l e R s m args below meth c T' L' cells slots → T'.heap = h' → Wr h h' a i (.int x') → Fr n0 L' → Arv Z h' a k .boolean z vs' dv → own_Go p e below K (T'.setTop (mkF m (pc + 1) Ls rest))) : own_Go p e below K (T.setTop (mkF m pc Ls (.int x :: .int j :: .ref a :: rest))) := by
  obtain ⟨cl, A, q, S, M, H, G⟩ := F
  subst hn; subst hi; subst hv
  obtain ⟨T', h', X', e', W, st⟩ := stZ X hx hZ eT A (j := j) (inb_of S hj) (g := mkF m pc Ls (.int x :: .int j :: .ref a :: rest)) rfl rfl hd
  exact own_go st (kk T' h' _ X' e' W (Fr.snoc X' N ge) (Arv.set A q S M H G (fits_nar_bool _) W _ rfl hl))
theorem own_stC {K : State → Outcome → Prop} {n0 : Nat} (X : Stand p l e R s m args below meth c T locs cells slots) (hx : p.tables.exec = Jvm.exec) (hZ : Z.Warmed39 s.vm) (eT : T.heap = h) (F : Arv Z h a k .char z vs dv) (j : Int32) (x x' : Int32) (i : Nat) (hj : ¬ j < 0 ∧ j < z) (hi : j.toNatClampNeg = i) (hl : i < vs.length) (hn : nar .char x = x') (vs' : List Value) (hv : vs.set i (.int x') = vs') (N : Fr n0 locs) (ge : n0 ≤ a) {pc : Nat} {Ls : Array Slot} {rest : List Value} (hd : decode c.code pc = .ok (.castore, 1))
    (kk : ∀ (T' : State) (h' : Heap) (L' : List Loc), Stand p l e R s m args below meth c T' L' cells slots → T'.heap = h' → Wr h h' a i (.int x') → Fr n0 L' → Arv Z h' a k .char z vs' dv → own_Go p e below K (T'.setTop (mkF m (pc + 1) Ls rest))) : own_Go p e below K (T.setTop (mkF m pc Ls (.int x :: .int j :: .ref a :: rest))) := by
  obtain ⟨cl, A, q, S, M, H, G⟩ := F
  subst hn; subst hi; subst hv
  obtain ⟨T', h', X', e', W, st⟩ := stC X hx hZ eT A (j := j) (inb_of S hj) (g := mkF m pc Ls (.int x :: .int j :: .ref a :: rest)) rfl rfl hd
  exact own_go st (kk T' h' _ X' e' W (Fr.snoc X' N ge) (Arv.set A q S M H G (fits_nar_char _) W _ rfl hl))
theorem own_stS {K : State → Outcome → Prop} {n0 : Nat} (X : Stand p l e R s m args below meth c T locs cells slots) (hx : p.tables.exec = Jvm.exec) (hZ : Z.Warmed39 s.vm) (eT : T.heap = h) (F : Arv Z h a k .short z vs dv) (j : Int32) (x x' : Int32) (i : Nat) (hj : ¬ j < 0 ∧ j < z) (hi : j.toNatClampNeg = i) (hl : i < vs.length) (hn : nar .short x = x') (vs' : List Value) (hv : vs.set i (.int x') = vs') (N : Fr n0 locs) (ge : n0 ≤ a) {pc : Nat} {Ls : Array Slot} {rest : List Value} (hd : decode c.code pc = .ok (.sastore, 1))
    (kk : ∀ (T' : State) (h' : Heap) (L' : List Loc), Stand p l e R s m args below meth c T' L' cells slots → T'.heap = h' → Wr h h' a i (.int x') → Fr n0 L' → Arv Z h' a k .short z vs' dv → own_Go p e below K (T'.setTop (mkF m (pc + 1) Ls rest))) : own_Go p e below K (T.setTop (mkF m pc Ls (.int x :: .int j :: .ref a :: rest))) := by
  obtain ⟨cl, A, q, S, M, H, G⟩ := F
  subst hn; subst hi; subst hv
  obtain ⟨T', h', X', e', W, st⟩ := stS X hx hZ eT A (j := j) (inb_of S hj) (g := mkF m pc Ls (.int x :: .int j :: .ref a :: rest)) rfl rfl hd
  exact own_go st (kk T' h' _ X' e' W (Fr.snoc X' N ge) (Arv.set A q S M H G (fits_nar_short _) W _ rfl hl))
theorem own_stR {K : State → Outcome → Prop} {n0 : Nat} (X : Stand p l e R s m args below meth c T locs cells slots) (hx : p.tables.exec = Jvm.exec) (hZ : Z.Warmed39 s.vm) (eT : T.heap = h) (F : Arv Z h a k ty z vs dv) (j : Int32) (v : Value) (i : Nat) (hj : ¬ j < 0 ∧ j < z) (hi : j.toNatClampNeg = i) (hl : i < vs.length) (sto : ∀ cl : Cell, Arr Z h a cl ty → cl.cls = k → Sto Z h a v) (hty : ty.isReference = true) (vs' : List Value) (hv : vs.set i v = vs') (N : Fr n0 locs) (ge : n0 ≤ a) {pc : Nat} {Ls : Array Slot} {rest : List Value} (hd : decode c.code pc = .ok (.aastore, 1))
    (kk : ∀ (T' : State) (h' : Heap) (L' : List Loc), Stand p l e R s m args below meth c T' L' cells slots → T'.heap = h' → Wr h h' a i v → Fr n0 L' → Arv Z h' a k ty z vs' dv → own_Go p e below K (T'.setTop (mkF m (pc + 1) Ls rest))) : own_Go p e below K (T.setTop (mkF m pc Ls (v :: .int j :: .ref a :: rest))) := by
  obtain ⟨cl, A, q, S, M, H, G⟩ := F
  subst hi; subst hv
  have so := sto cl A q
  obtain ⟨T', h', X', e', W, st⟩ := stR X hx hZ eT A (j := j) (inb_of S hj) hty so (g := mkF m pc Ls (v :: .int j :: .ref a :: rest)) rfl rfl hd
  have fv : fits ty v = true := by
    rcases so with rfl | ⟨_, _, _, _, _, _, _, y, _, _, _, _, rfl, _⟩ <;> cases ty <;> first | rfl | cases hty
  exact own_go st (kk T' h' _ X' e' W (Fr.snoc X' N ge) (Arv.set A q S M H G fv W _ rfl hl))
end Arrays
section Calls
variable {own : String} {index : Nat} {y z : MethodName} {bytes : ByteArray} {maxL : Nat} {ret : Option FieldType} {rm : Room} {W : Nat} {as' : Array Value} {Z : State} {a0 : Array Value} {h : Heap} {K : State → Outcome → Prop} {pc : Nat} {Ls : Array Slot} {argsL rest stk : List Value} {C : String} {b : Addr}
theorem own_cs (X : Stand p l e R s m args below meth c T locs cells slots) (hx : p.tables.exec = Jvm.exec) (hZ : Z.Warmed39 s.vm) (hown : s.vm.findClass own = some m.cls) (w1 : (Cond.methodLink own index y).before a0 Z = true) (w2 : (Cond.static y).before a0 Z = true) (w3 : (Cond.initialized y.cls).before a0 Z = true) (w4 : (Cond.code y bytes maxL ret).before a0 Z = true)
    (hy : y.cls ≠ "java/lang/invoke/MethodHandle" ∧ y.cls ≠ "java/lang/invoke/VarHandle")
    (hM : MetFree l y (head1 [Cond.code y bytes maxL ret] rm) (fun a U => a = as' ∧ Z.Warmed39 U.vm ∧ U.heap = h) (fun _ _ _ _ _ => True) (fun _ U o U' => ∃ v L, o = .returned v ∧ Q v U'.heap L ∧ FrameEnd U o U' L rm.cells rm.slots))
    (hf : rm.frames + 1 ≤ R.frames) (hl : W + (maxL + 11) + rm.locals ≤ R.locals) (hc : cells + rm.cells ≤ R.cells) (hs : slots + rm.slots ≤ R.slots) (eT : T.heap = h) (hsz : Ls.size = c.maxLocals) (hlen : ∀ sig, parseMethodDescriptor y.desc = some sig → argsL.length = sig.parameters.length)
    (hst : stk = argsL.reverse ++ rest) (has : argsL.toArray = as') (hW : (rest.map fun v => v.category).sum ≤ W) (hd : decode c.code pc = .ok (.invokestatic index, 3))
    (k : ∀ (v : Option Value) (T' : State) (L : List Loc), Stand p l e R s m args below meth c T' (locs ++ L) (cells + rm.cells) (slots + rm.slots) → Q v T'.heap L → own_Go p e below K (T'.setTop (mkF m (pc + 3) Ls (v.toList ++ rest)))) : own_Go p e below K (T.setTop (mkF m pc Ls stk)) := by
  obtain ⟨v, _, ⟨T', L', k', n'⟩, -, X', ⟨L, hQ, h1, h2, h3⟩, st⟩ := Jvm.LawKit.callS X hx (y := y) hown (mvT hZ w1) (mvT hZ w2) (mvT hZ w3) (mvT hZ w4) hy (backOf (W := W) hM hZ w4 w3 hf hl) (g := mkF m pc Ls stk) rfl hsz (argsL := argsL) (rest := rest) hlen hst (by show 2 * 0 + _ ≤ _; simpa using hW) hd (fun _ _ => ⟨has, eT, hc, hs⟩)
  dsimp only [Pt.U, Pt.locs, Pt.cells, Pt.slots] at X' h1 h2 h3 st hQ
  subst h1 h2 h3
  exact own_go st (k v T' L X' hQ)
theorem own_cp (X : Stand p l e R s m args below meth c T locs cells slots) (hx : p.tables.exec = Jvm.exec) (hZ : Z.Warmed39 s.vm) (hown : s.vm.findClass own = some m.cls) (hy1 : y.name = "<init>") (w1 : (Cond.methodLink own index y).before a0 Z = true) (w2 : (Cond.instanceMethod y).before a0 Z = true) (w3 : (Cond.initialized y.cls).before a0 Z = true) (w4 : (Cond.code y bytes maxL none).before a0 Z = true)
    (hy : y.cls ≠ "java/lang/invoke/MethodHandle" ∧ y.cls ≠ "java/lang/invoke/VarHandle")
    (hM : MetFree l y (head1 [Cond.code y bytes maxL none] rm) (fun a U => a = as' ∧ Z.Warmed39 U.vm ∧ U.heap = h) (fun _ _ _ _ _ => True) (fun _ U o U' => ∃ v L, o = .returned v ∧ Q v U'.heap L ∧ FrameEnd U o U' L rm.cells rm.slots))
    (hf : rm.frames + 1 ≤ R.frames) (hl : W + (maxL + 11) + rm.locals ≤ R.locals) (hc : cells + rm.cells ≤ R.cells) (hs : slots + rm.slots ≤ R.slots) (eT : T.heap = h) (hsz : Ls.size = c.maxLocals) (hlen : ∀ sig, parseMethodDescriptor y.desc = some sig → argsL.length = sig.parameters.length)
    (hst : stk = argsL.reverse ++ .ref b :: rest) (has : (.ref b :: argsL).toArray = as') (hW : (rest.map fun v => v.category).sum ≤ W) (hd : decode c.code pc = .ok (.invokespecial index, 3))
    (k : ∀ (v : Option Value) (T' : State) (L : List Loc), Stand p l e R s m args below meth c T' (locs ++ L) (cells + rm.cells) (slots + rm.slots) → Q v T'.heap L → own_Go p e below K (T'.setTop (mkF m (pc + 3) Ls (v.toList ++ rest)))) : own_Go p e below K (T.setTop (mkF m pc Ls stk)) := by
  obtain ⟨v, _, ⟨T', L', k', n'⟩, -, X', ⟨L, hQ, h1, h2, h3⟩, st⟩ := X.specialBack hx (y := y) hy1 hown (mvT hZ w1) (mvT hZ w2) (mvT hZ w4) hy (backOf (W := W) hM hZ w4 w3 hf hl) (g := mkF m pc Ls stk) rfl hsz (Steps.refl _) (a := b) (argsL := argsL) (rest := rest) hlen hst (by show 2 * 0 + _ ≤ _; simpa using hW) hd (fun _ _ => ⟨has, eT, hc, hs⟩)
  dsimp only [Pt.U, Pt.locs, Pt.cells, Pt.slots] at X' h1 h2 h3 st hQ
  subst h1 h2 h3
  exact own_via st (k v T' L X' hQ)
theorem own_cv (X : Stand p l e R s m args below meth c T locs cells slots) (hx : p.tables.exec = Jvm.exec) (hZ : Z.Warmed39 s.vm) (hown : s.vm.findClass own = some m.cls) (nf : NotFace s y) (w1 : (Cond.methodLink own index y).before a0 Z = true) (w2 : (Cond.declares y).before a0 Z = true) (w5 : (Cond.selects C y z).before a0 Z = true) (w6 : (Cond.instanceMethod z).before a0 Z = true) (w3 : (Cond.initialized z.cls).before a0 Z = true) (w4 : (Cond.code z bytes maxL ret).before a0 Z = true)
    (hy : y.cls ≠ "java/lang/invoke/MethodHandle" ∧ y.cls ≠ "java/lang/invoke/VarHandle") (E : Exa Z h b C)
    (hM : MetFree l z (head1 [Cond.code z bytes maxL ret] rm) (fun a U => a = as' ∧ Z.Warmed39 U.vm ∧ U.heap = h) (fun _ _ _ _ _ => True) (fun _ U o U' => ∃ v L, o = .returned v ∧ Q v U'.heap L ∧ FrameEnd U o U' L rm.cells rm.slots))
    (hf : rm.frames + 1 ≤ R.frames) (hl : W + (maxL + 11) + rm.locals ≤ R.locals) (hc : cells + rm.cells ≤ R.cells) (hs : slots + rm.slots ≤ R.slots) (eT : T.heap = h) (hsz : Ls.size = c.maxLocals) (hlen : ∀ sig, parseMethodDescriptor y.desc = some sig → argsL.length = sig.parameters.length)
    (hst : stk = argsL.reverse ++ .ref b :: rest) (has : (.ref b :: argsL).toArray = as') (hW : (rest.map fun v => v.category).sum ≤ W) (hd : decode c.code pc = .ok (.invokevirtual index, 3))
    (k : ∀ (v : Option Value) (T' : State) (L : List Loc), Stand p l e R s m args below meth c T' (locs ++ L) (cells + rm.cells) (slots + rm.slots) → Q v T'.heap L → own_Go p e below K (T'.setTop (mkF m (pc + 3) Ls (v.toList ++ rest)))) : own_Go p e below K (T.setTop (mkF m pc Ls stk)) := by
  obtain ⟨cq, kq, qa, qb, qc⟩ := isOf hZ eT E
  obtain ⟨v, _, ⟨T', L', k', n'⟩, -, X', ⟨L, hQ, h1, h2, h3⟩, st⟩ := X.virtualBack hx (y := y) (z := z) hown (mvT hZ w1) (mvT hZ w2) nf (mvT hZ w5) (mvT hZ w6) hy (backOf (W := W) hM hZ w4 w3 hf hl) qa qc (g := mkF m pc Ls stk) rfl hsz (Steps.refl _) (argsL := argsL) (rest := rest) hlen hst (by show 2 * 0 + _ ≤ _; simpa using hW) hd (fun _ _ => ⟨has, eT, hc, hs⟩)
  dsimp only [Pt.U, Pt.locs, Pt.cells, Pt.slots] at X' h1 h2 h3 st hQ
  subst h1 h2 h3
  exact own_via st (k v T' L X' hQ)
theorem own_cq (X : Stand p l e R s m args below meth c T locs cells slots) (hx : p.tables.exec = Jvm.exec) (hZ : Z.Warmed39 s.vm) (hown : s.vm.findClass own = some m.cls) (w1 : (Cond.methodLink own index y).before a0 Z = true) (w6 : (Cond.instanceMethod y).before a0 Z = true) (w5 : (Cond.selects y.cls y y).before a0 Z = true) (w7 : (Cond.privateMethod y).before a0 Z = true) (w3 : (Cond.initialized y.cls).before a0 Z = true) (w4 : (Cond.code y bytes maxL ret).before a0 Z = true)
    (hy : y.cls ≠ "java/lang/invoke/MethodHandle" ∧ y.cls ≠ "java/lang/invoke/VarHandle") (E : Exa Z h b C)
    (hM : MetFree l y (head1 [Cond.code y bytes maxL ret] rm) (fun a U => a = as' ∧ Z.Warmed39 U.vm ∧ U.heap = h) (fun _ _ _ _ _ => True) (fun _ U o U' => ∃ v L, o = .returned v ∧ Q v U'.heap L ∧ FrameEnd U o U' L rm.cells rm.slots))
    (hf : rm.frames + 1 ≤ R.frames) (hl : W + (maxL + 11) + rm.locals ≤ R.locals) (hc : cells + rm.cells ≤ R.cells) (hs : slots + rm.slots ≤ R.slots) (eT : T.heap = h) (hsz : Ls.size = c.maxLocals) (hlen : ∀ sig, parseMethodDescriptor y.desc = some sig → argsL.length = sig.parameters.length)
    (hst : stk = argsL.reverse ++ .ref b :: rest) (has : (.ref b :: argsL).toArray = as') (hW : (rest.map fun v => v.category).sum ≤ W) (hd : decode c.code pc = .ok (.invokevirtual index, 3))
    (k : ∀ (v : Option Value) (T' : State) (L : List Loc), Stand p l e R s m args below meth c T' (locs ++ L) (cells + rm.cells) (slots + rm.slots) → Q v T'.heap L → own_Go p e below K (T'.setTop (mkF m (pc + 3) Ls (v.toList ++ rest)))) : own_Go p e below K (T.setTop (mkF m pc Ls stk)) := by
  obtain ⟨cq, q1, q2⟩ := E.cell
  obtain ⟨v, _, ⟨T', L', k', n'⟩, -, X', ⟨L, hQ, h1, h2, h3⟩, st⟩ := X.privateBack hx (y := y) hown (mvT hZ w1) (mvT hZ w6) (mvT hZ w5) (Cond.privateMethod_at (mvP hZ w7 (args := #[]))) (mvT hZ w4) hy (backOf (W := W) hM hZ w4 w3 hf hl) (g := mkF m pc Ls stk) rfl hsz (Steps.refl _) (a := b) (by rw [eT]; exact q1) q2 (argsL := argsL) (rest := rest) hlen hst (by show 2 * 0 + _ ≤ _; simpa using hW) hd (fun _ _ => ⟨has, eT, hc, hs⟩)
  dsimp only [Pt.U, Pt.locs, Pt.cells, Pt.slots] at X' h1 h2 h3 st hQ
  subst h1 h2 h3
  exact own_via st (k v T' L X' hQ)
theorem own_cu {owner : String} (X : Stand p l e R s m args below meth c T locs cells slots) (hx : p.tables.exec = Jvm.exec) (hZ : Z.Warmed39 s.vm) (hown : s.vm.findClass own = some m.cls) (w1 : (Cond.methodLink own index y).before a0 Z = true) (w8 : (Cond.sameMethod y.cls owner y.name y.desc).before a0 Z = true) (w2 : (Cond.declares ⟨owner, y.name, y.desc⟩).before a0 Z = true) (w5 : (Cond.selects C y z).before a0 Z = true) (w6 : (Cond.instanceMethod z).before a0 Z = true) (w3 : (Cond.initialized z.cls).before a0 Z = true) (w4 : (Cond.code z bytes maxL ret).before a0 Z = true)
    (hy : owner ≠ "java/lang/invoke/MethodHandle" ∧ owner ≠ "java/lang/invoke/VarHandle") (E : Exa Z h b C)
    (hM : MetFree l z (head1 [Cond.code z bytes maxL ret] rm) (fun a U => a = as' ∧ Z.Warmed39 U.vm ∧ U.heap = h) (fun _ _ _ _ _ => True) (fun _ U o U' => ∃ v L, o = .returned v ∧ Q v U'.heap L ∧ FrameEnd U o U' L rm.cells rm.slots))
    (hf : rm.frames + 1 ≤ R.frames) (hl : W + (maxL + 11) + rm.locals ≤ R.locals) (hc : cells + rm.cells ≤ R.cells) (hs : slots + rm.slots ≤ R.slots) (eT : T.heap = h) (hsz : Ls.size = c.maxLocals) (hlen : ∀ sig, parseMethodDescriptor y.desc = some sig → argsL.length = sig.parameters.length)
    (hst : stk = argsL.reverse ++ .ref b :: rest) (has : (.ref b :: argsL).toArray = as') (hW : (rest.map fun v => v.category).sum ≤ W) (hd : decode c.code pc = .ok (.invokevirtual index, 3))
    (k : ∀ (v : Option Value) (T' : State) (L : List Loc), Stand p l e R s m args below meth c T' (locs ++ L) (cells + rm.cells) (slots + rm.slots) → Q v T'.heap L → own_Go p e below K (T'.setTop (mkF m (pc + 3) Ls (v.toList ++ rest)))) : own_Go p e below K (T.setTop (mkF m pc Ls stk)) := by
  obtain ⟨cq, kq, qa, qb, qc⟩ := isOf hZ eT E
  obtain ⟨v, _, ⟨T', L', k', n'⟩, -, X', ⟨L, hQ, h1, h2, h3⟩, st⟩ := X.virtualBackUp hx (x := y) (y := z) (owner := owner) hown (mvT hZ w1) (mvT hZ w8) (mvT hZ w2) hy (mvT hZ w5) (mvT hZ w6) (backOf (W := W) hM hZ w4 w3 hf hl) qa qc (g := mkF m pc Ls stk) rfl hsz (Steps.refl _) (argsL := argsL) (rest := rest) hlen hst (by show 2 * 0 + _ ≤ _; simpa using hW) hd (fun _ _ => ⟨has, eT, hc, hs⟩)
  dsimp only [Pt.U, Pt.locs, Pt.cells, Pt.slots] at X' h1 h2 h3 st hQ
  subst h1 h2 h3
  exact own_via st (k v T' L X' hQ)
end Calls
theorem own_fld_eq {Z : State} {h : Heap} {a : Addr} {C n d : String} {v w : Value} (F : Fld Z h a C n d v) (G : Fld Z h a C n d w) : v = w := Classical.byContradiction fun q => Fld.ne F G q rfl
theorem own_nsroot {Z : State} {a0 : Array Value} {O K : String} {n : Nat} (w : (Cond.noSuperclass O).before a0 Z = true) (wk : (Cond.instantiable K n).before a0 Z = true) (hn : O ≠ K) : NS Z O K := by
  obtain ⟨c, k, h1, h2, h3, -, -⟩ := Cond.noSuperclass_spec w
  obtain ⟨t, kt, g1, -⟩ := Cond.instantiable_spec wk
  have ne := ids_ne h1 g1 hn
  refine ⟨c, t, h1, g1, fun fuel => ?_⟩
  cases fuel with
  | zero => rfl
  | succ f => simp [Vm.isSubclassAux, ne, h2, h3]
theorem own_nsno {Z : State} {a0 : Array Value} {C S K : String} {n : Nat} (w : (Cond.superclass C S).before a0 Z = true) (wk : (Cond.instantiable K n).before a0 Z = true) (nn : NS Z C K) (hn : C ≠ K) : ∃ c t, Z.vm.findClass C = some c ∧ Z.vm.findClass K = some t ∧ Z.vm.assignable c t = false := by
  obtain ⟨c, t, h0, g0, n3⟩ := nn
  obtain ⟨p, k, kp, h1, h2, h3, h4, h5, -, h7⟩ := Cond.superclass_spec h0 w
  obtain ⟨t', kt, g1, g2, g5, g6, -⟩ := Cond.instantiable_spec wk
  cases g0.symm.trans g1
  have g7 : kt.isInterface = false := by simp only [Bool.or_eq_false_iff] at g6; exact g6.1
  have ne := ids_ne h0 g0 hn
  refine ⟨c, t, h0, g0, ?_⟩
  show Z.vm.assignableAux (255 + 1) c t = false
  simp [Vm.assignableAux, ne, h2, g2, h5, g5, g7, Vm.isSubclass, n3]
theorem own_ns_exa {Z : State} {h : Heap} {a : Addr} {C : String} (F : Exa Z h a C) : ∀ cell : Cell, h[a]? = some cell → cell.vm.isStatics = false := fun cell hc => by
  obtain ⟨c, _, h1, -, -, h4, -⟩ := F; cases h1.symm.trans hc; exact h4
theorem own_ns_arv {Z : State} {h : Heap} {a : Addr} {k : ClassId} {ty : FieldType} {z : Int32} {vs : List Value} {dv : Value} (F : Arv Z h a k ty z vs dv) : ∀ cell : Cell, h[a]? = some cell → cell.vm.isStatics = false := fun cell hc => by
  obtain ⟨c, A, -⟩ := F; cases A.1.symm.trans hc; exact A.plain
theorem own_sta_keep {Z : State} {h h' : Heap} {C f d : String} {v : Value} {ws : List Addr} (F : Sta Z h C f d v) (K : Keep h h' ws) (q : ∀ x ∈ ws, ∀ cell : Cell, h[x]? = some cell → cell.vm.isStatics = false) : Sta Z h' C f d v := by
  obtain ⟨cf, i, k, fl, st, cell, h1, h2, h3, h4, h5, h6, h7⟩ := F
  exact ⟨cf, i, k, fl, st, cell, h1, h2, h3, h4, K.2.1 _ _ h5 (fun hm => by rw [q _ hm _ h5] at h6; cases h6), h6, h7⟩
end Own
end Jvm.RoadKit
namespace Jvm.Pilot.@@N@@
open Jvm Jvm.ClassFile Sem Op Lib Jvm.Free Jvm.Stand Jvm.LawKit Jvm.RoadKit Bundle Jvm.Pilot.@@N@@.Jvm.D
theorem own_m (i : Nat) {d : Jvm.Cond} (h : tables_1[i]? = some d) : d ∈ tables_1 := List.mem_of_getElem? h
theorem own_eq_int {args : Array Value} {s first : State} {o : Option Outcome} {idx : List Nat} {t : Term} {k : Int32} (h : (Cond.eq t (.int k)).value args first o s idx = some true) : t.eval args first o idx s = some (.int k) := by
  obtain ⟨x, y, h1, h2, h3, h4⟩ := cmp_v (r := true) (Or.inl h)
  have e2 : y = .int k := (Option.some.inj h2).symm
  subst e2
  obtain ⟨z, rfl⟩ := h4
  have q := h
  simp only [Cond.value, h1, h2] at q
  have : z = k := by simpa using q
  rw [h1, this]
theorem own_eq_ref {args : Array Value} {s first : State} {o : Option Outcome} {idx : List Nat} {t u : Term} {a : Addr} (hu : u.eval args first o idx s = some (.ref a)) (h : (Cond.eq t u).value args first o s idx = some true) : t.eval args first o idx s = some (.ref a) := by
  obtain ⟨x, y, h1, h2, h3, h4⟩ := cmp_v (r := true) (Or.inl h)
  cases hu.symm.trans h2
  have q := h
  simp only [Cond.value, h1, h2] at q
  cases x <;> simp [Kin, Value.isRef] at h3 h4 q ⊢
  rw [h1, q]
theorem own_d_prog_4_method_1_code_0 : decode prog_4_method_1_code 0 = .ok (.aload_n 0, 1) := by decide +kernel
theorem own_d_prog_4_method_1_code_1 : decode prog_4_method_1_code 1 = .ok (.invokespecial 1, 3) := by decide +kernel
theorem own_d_prog_4_method_1_code_4 : decode prog_4_method_1_code 4 = .ok (.aload_n 1, 1) := by decide +kernel
theorem own_d_prog_4_method_1_code_5 : decode prog_4_method_1_code 5 = .ok (.arraylength, 1) := by decide +kernel
theorem own_d_prog_4_method_1_code_6 : decode prog_4_method_1_code 6 = .ok (.iconst 4, 1) := by decide +kernel
theorem own_d_prog_4_method_1_code_7 : decode prog_4_method_1_code 7 = .ok (.if_icmp .eq 25, 3) := by decide +kernel
theorem own_d_prog_4_method_1_code_32 : decode prog_4_method_1_code 32 = .ok (.iload_n 2, 1) := by decide +kernel
theorem own_d_prog_4_method_1_code_33 : decode prog_4_method_1_code 33 = .ok (.ifCond .lt 9, 3) := by decide +kernel
theorem own_d_prog_4_method_1_code_36 : decode prog_4_method_1_code 36 = .ok (.iload_n 2, 1) := by decide +kernel
theorem own_d_prog_4_method_1_code_37 : decode prog_4_method_1_code 37 = .ok (.ldc 18, 2) := by decide +kernel
theorem own_d_prog_4_method_1_code_39 : decode prog_4_method_1_code 39 = .ok (.if_icmp .le 17, 3) := by decide +kernel
theorem own_d_prog_4_method_1_code_56 : decode prog_4_method_1_code 56 = .ok (.aload_n 0, 1) := by decide +kernel
theorem own_d_prog_4_method_1_code_57 : decode prog_4_method_1_code 57 = .ok (.aload_n 1, 1) := by decide +kernel
theorem own_d_prog_4_method_1_code_58 : decode prog_4_method_1_code 58 = .ok (.invokevirtual 20, 3) := by decide +kernel
theorem own_d_prog_4_method_1_code_61 : decode prog_4_method_1_code 61 = .ok (.checkcast 21, 3) := by decide +kernel
theorem own_d_prog_4_method_1_code_64 : decode prog_4_method_1_code 64 = .ok (.putfield 26, 3) := by decide +kernel
theorem own_d_prog_4_method_1_code_67 : decode prog_4_method_1_code 67 = .ok (.aload_n 0, 1) := by decide +kernel
theorem own_d_prog_4_method_1_code_68 : decode prog_4_method_1_code 68 = .ok (.iload_n 2, 1) := by decide +kernel
theorem own_d_prog_4_method_1_code_69 : decode prog_4_method_1_code 69 = .ok (.putfield 29, 3) := by decide +kernel
theorem own_d_prog_4_method_1_code_72 : decode prog_4_method_1_code 72 = .ok (.return_, 1) := by decide +kernel
theorem own_pn_com_example_appenddb_appenddb_HostAddress : plainName "com/example/appenddb/appenddb/HostAddress" = true := by first | (simp [plainName, overriddenIn]; done) | decide +kernel
def Q_init_0 (Z : State) (o0 : Addr) (y0 : Int32) (y1 : Int32) (y2 : Int32) (y3 : Int32) (y4 : Int32) (kc0 : ClassId) (h0 : Heap) (n0 : Nat) (v : Option Value) (h : Heap) (L : List Loc) : Prop := (∃ (b2 : Addr) (kc0 : ClassId), v = none ∧ Fr n0 L ∧ Keep h0 h [o0] ∧ n0 ≤ b2 ∧ h0.size ≤ b2 ∧ Fld Z h o0 "com/example/appenddb/appenddb/HostAddress" "address" "[B" (.ref b2) ∧ Fld Z h o0 "com/example/appenddb/appenddb/HostAddress" "port" "I" (.int y0) ∧ Arv Z h b2 kc0 .byte (4 : Int32) [(.int y1), (.int y2), (.int y3), (.int y4)] (.int (0 : Int32)) ∧ Exa Z h b2 "[B")
set_option maxRecDepth 65536 in
set_option maxHeartbeats 40000000 in
theorem rm_init_0 (l : Launch) (Z : State) (a0 : Array Value) (hw : ∀ d ∈ tables_1, d.before a0 Z = true) (ws : List Jvm.Cond) (o0 : Addr) (o1 : Addr) (y0 : Int32) (y1 : Int32) (y2 : Int32) (y3 : Int32) (y4 : Int32) (kc0 : ClassId) (h0 : Heap) (n0 : Nat) (Z0 : n0 ≤ h0.size) (P0 : Arv Z h0 o1 kc0 .byte (4 : Int32) [(.int y1), (.int y2), (.int y3), (.int y4)] (.int (0 : Int32))) (P1 : Exa Z h0 o1 "[B") (P2 : Exa Z h0 o0 "com/example/appenddb/appenddb/HostAddress") (P3 : Fld Z h0 o0 "com/example/appenddb/appenddb/HostAddress" "address" "[B" .null) (P4 : Fld Z h0 o0 "com/example/appenddb/appenddb/HostAddress" "port" "I" (.int (0 : Int32))) (ge0p : n0 ≤ o0) (hb0 : ¬ (y0 < (0 : Int32))) (hb1 : ¬ ((65535 : Int32) < y0)) :
    MetFree l (⟨"com/example/appenddb/appenddb/HostAddress", "<init>", "([BI)V"⟩ : MethodName) (head1 (Jvm.Cond.code (⟨"com/example/appenddb/appenddb/HostAddress", "<init>", "([BI)V"⟩ : MethodName) prog_4_method_1_code 3 none :: ws) ({ frames := 1, cells := 1, slots := 4, locals := 15 } : Room)) (fun aA U => aA = #[(.ref o0), (.ref o1), (.int y0)] ∧ Z.Warmed39 U.vm ∧ U.heap = h0) (fun _ _ _ _ _ => True) (fun _ U o U' => ∃ v L, o = .returned v ∧ Q_init_0 Z o0 y0 y1 y2 y3 y4 kc0 h0 n0 v U'.heap L ∧ FrameEnd U o U' L ({ frames := 1, cells := 1, slots := 4, locals := 15 } : Room).cells ({ frames := 1, cells := 1, slots := 4, locals := 15 } : Room).slots) := by
  refine MetFree.of_bodySF (plainFor_of_name own_pn_com_example_appenddb_appenddb_HostAddress) hisR ?_
  intro p e s m args below meth c s₁ Bd hml0 hP hK
  obtain ⟨rfl, hZ, hh⟩ := hP
  have hx := Bd.exec
  have hby := Bd.bytes
  have hlk : meth.locks = false := BodyLoose.notSynchronized Bd
  have hml : c.maxLocals = 3 := hml0
  have hown : s.vm.findClass "com/example/appenddb/appenddb/HostAddress" = some m.cls := findClass_of_methodNamed Bd.named
  have hnm := (name_of_methodNamed Bd.named Bd.method).1
  have X0 : Stand p l e ({ frames := 1, cells := 1, slots := 4, locals := 15 } : Room) s m #[(.ref o0), (.ref o1), (.int y0)] below meth c s₁ [] 0 0 := Stand.of_body Bd
  have e0 : s₁.heap = h0 := by rw [← hh, Bd.state]; rfl
  have N0 := Fr.nil n0
  have K0 : Keep h0 h0 [o0] := Keep.refl _ _
  show own_Go p e below (own_K s (Q_init_0 Z o0 y0 y1 y2 y3 y4 kc0 h0 n0) ({ frames := 1, cells := 1, slots := 4, locals := 15 } : Room).cells ({ frames := 1, cells := 1, slots := 4, locals := 15 } : Room).slots) (s₁.setTop (entryFrame m #[(.ref o0), (.ref o1), (.int y0)] 3))
  rw [(by first | (simp [entryFrame, mkF, argsToLocals, Value.category]; done) | rfl : entryFrame m #[(.ref o0), (.ref o1), (.int y0)] 3 = mkF m 0 #[.val (.ref o0), .val (.ref o1), .val (.int y0)] [])]
  show own_Go p e below _ (s₁.setTop (mkF m 0 #[.val (.ref o0), .val (.ref o1), .val (.int y0)] []))
  refine own_go (fun _ hr => XS.aloadN X0.here hx rfl (hb hby own_d_prog_4_method_1_code_0) rfl rfl hr) ?_
  show own_Go p e below _ (s₁.setTop (mkF m 1 #[.val (.ref o0), .val (.ref o1), .val (.int y0)] [(.ref o0)]))
  obtain ⟨T1, X1, e1, st1⟩ := initO X0 hx hZ hown (hw _ (own_m 8 rfl)) (hw _ (own_m 9 rfl)) (hw _ (own_m 10 rfl)) e0 (g := (mkF m 1 #[.val (.ref o0), .val (.ref o1), .val (.int y0)] [(.ref o0)])) rfl (by rw [hml]; rfl) rfl (hb hby own_d_prog_4_method_1_code_1) (by decide) (W := 0) (by show 2 * 0 + _ ≤ _; exact Nat.le_of_eq rfl) (by decide)
  refine own_go st1 ?_
  show own_Go p e below _ (T1.setTop (mkF m 4 #[.val (.ref o0), .val (.ref o1), .val (.int y0)] []))
  refine own_go (fun _ hr => XS.aloadN X1.here hx rfl (hb hby own_d_prog_4_method_1_code_4) rfl rfl (own_alen X1 hx hZ e1 P0 rfl rfl (hb hby own_d_prog_4_method_1_code_5) (XS.iconst X1.here hx rfl (hb hby own_d_prog_4_method_1_code_6) (XS.icmpYes X1.here hx rfl (pc0 := 7) (pc' := 32) rfl (hb hby own_d_prog_4_method_1_code_7) rfl (teq (by decide)).1 (by decide) (by decide) (XS.iloadN X1.here hx rfl (hb hby own_d_prog_4_method_1_code_32) rfl hr))))) ?_
  show own_Go p e below _ (T1.setTop (mkF m 33 #[.val (.ref o0), .val (.ref o1), .val (.int y0)] [(.int y0)]))
  refine own_go (fun _ hr => XS.ifNo X1.here hx rfl (hb hby own_d_prog_4_method_1_code_33) rfl ((if0 _ _).trans (flt hb0).1) hr) ?_
  show own_Go p e below _ (T1.setTop (mkF m 36 #[.val (.ref o0), .val (.ref o1), .val (.int y0)] []))
  refine own_go (fun _ hr => XS.iloadN X1.here hx rfl (hb hby own_d_prog_4_method_1_code_36) rfl hr) ?_
  show own_Go p e below _ (T1.setTop (mkF m 37 #[.val (.ref o0), .val (.ref o1), .val (.int y0)] [(.int y0)]))
  refine own_go (X1.ldcInt hx hown (mvT hZ (hw _ (own_m 11 rfl))) rfl (hb hby own_d_prog_4_method_1_code_37)) ?_
  show own_Go p e below _ (T1.setTop (mkF m 39 #[.val (.ref o0), .val (.ref o1), .val (.int y0)] [(.int (65535 : Int32)), (.int y0)]))
  refine own_go (fun _ hr => XS.icmpYes X1.here hx rfl (pc0 := 39) (pc' := 56) rfl (hb hby own_d_prog_4_method_1_code_39) rfl (flt hb1).2.2.2 (by decide) (by decide) hr) ?_
  show own_Go p e below _ (T1.setTop (mkF m 56 #[.val (.ref o0), .val (.ref o1), .val (.int y0)] []))
  refine own_go (fun _ hr => XS.aloadN X1.here hx rfl (hb hby own_d_prog_4_method_1_code_56) rfl rfl (XS.aloadN X1.here hx rfl (hb hby own_d_prog_4_method_1_code_57) rfl rfl hr)) ?_
  show own_Go p e below _ (T1.setTop (mkF m 58 #[.val (.ref o0), .val (.ref o1), .val (.int y0)] [(.ref o1), (.ref o0)]))
  obtain ⟨T2, h2, X2, e2, E2, A2, EA2, st2⟩ := cloneH X1 hx hZ hown (hw _ (own_m 12 rfl)) (hw _ (own_m 13 rfl)) (hw _ (own_m 17 rfl)) (hw _ (own_m 15 rfl)) (hw _ (own_m 16 rfl)) (hw _ (own_m 18 rfl)) e1 P0.arh P1 (g := (mkF m 58 #[.val (.ref o0), .val (.ref o1), .val (.int y0)] [(.ref o1), (.ref o0)])) rfl (by rw [hml]; rfl) rfl (hb hby own_d_prog_4_method_1_code_58) (by decide) (W := 1) (cap := 4) (by show 2 * 0 + _ ≤ _; exact Nat.le_of_eq rfl) (by decide) (by decide) (by decide) (by decide)
  obtain ⟨b2, g2⟩ : ∃ z, z = h0.size := ⟨_, rfl⟩
  rw [← g2] at A2 EA2 st2
  have ge3 : n0 ≤ b2 := Nat.le_trans Z0 (Nat.le_of_eq g2.symm)
  have sz4 : h0.size ≤ b2 := Nat.le_trans K0.1 (Nat.le_of_eq g2.symm)
  refine own_go st2 ?_
  have f5 : Arv Z h2 b2 kc0 .byte (4 : Int32) [(.int y1), (.int y2), (.int y3), (.int y4)] (.int (0 : Int32)) := A2
  show own_Go p e below _ (T2.setTop (mkF m 61 #[.val (.ref o0), .val (.ref o1), .val (.int y0)] [(.ref b2), (.ref o0)]))
  obtain ⟨T6, X6, e6, st6⟩ := castY X2 hx hZ hown (hw _ (own_m 19 rfl)) e2 (Ins.self EA2) (g := (mkF m 61 #[.val (.ref o0), .val (.ref o1), .val (.int y0)] [(.ref b2), (.ref o0)])) rfl rfl (hb hby own_d_prog_4_method_1_code_61)
  refine own_go st6 ?_
  show own_Go p e below _ (T6.setTop (mkF m 64 #[.val (.ref o0), .val (.ref o1), .val (.int y0)] [(.ref b2), (.ref o0)]))
  have f7 := (P2.ext E2)
  have f8 := (P3.ext E2)
  obtain ⟨T9, h9, X9, e9, W9, st9⟩ := putF X6 hx hZ hown (host := "") (Or.inl (hw _ (own_m 21 rfl))) Via.refl e6 f8 f7 (Or.inr ⟨(hw _ (own_m 22 rfl)), rfl, hnm⟩) (hw _ (own_m 3 rfl)) (ty := (.array .byte)) (by decide) rfl rfl (g := (mkF m 64 #[.val (.ref o0), .val (.ref o1), .val (.int y0)] [(.ref b2), (.ref o0)])) rfl rfl (hb hby own_d_prog_4_method_1_code_64)
  refine own_go st9 ?_
  have f10 := f8.same W9
  have N11 := Fr.snoc X9 N0 ge0p
  show own_Go p e below _ (T9.setTop (mkF m 67 #[.val (.ref o0), .val (.ref o1), .val (.int y0)] []))
  refine own_go (fun _ hr => XS.aloadN X9.here hx rfl (hb hby own_d_prog_4_method_1_code_67) rfl rfl (XS.iloadN X9.here hx rfl (hb hby own_d_prog_4_method_1_code_68) rfl hr)) ?_
  show own_Go p e below _ (T9.setTop (mkF m 69 #[.val (.ref o0), .val (.ref o1), .val (.int y0)] [(.int y0), (.ref o0)]))
  have f12 := (f7.wr W9)
  have f13 := ((P4.ext E2).other W9 (Or.inr (slot_ne (Or.inr (hw _ (own_m 24 rfl))) (Or.inr (hw _ (own_m 22 rfl))) (by decide) (t := .int) (t' := (.array .byte)) (by decide) (by decide))))
  obtain ⟨T14, h14, X14, e14, W14, st14⟩ := putF X9 hx hZ hown (host := "") (Or.inl (hw _ (own_m 23 rfl))) Via.refl e9 f13 f12 (Or.inr ⟨(hw _ (own_m 24 rfl)), rfl, hnm⟩) (hw _ (own_m 3 rfl)) (ty := .int) (by decide) rfl rfl (g := (mkF m 69 #[.val (.ref o0), .val (.ref o1), .val (.int y0)] [(.int y0), (.ref o0)])) rfl rfl (hb hby own_d_prog_4_method_1_code_69)
  refine own_go st14 ?_
  have f15 := f13.same W14
  have N16 := Fr.snoc X14 N11 ge0p
  show own_Go p e below _ (T14.setTop (mkF m 72 #[.val (.ref o0), .val (.ref o1), .val (.int y0)] []))
  have f17 := (f10.other W14 (Or.inr (slot_ne (Or.inr (hw _ (own_m 22 rfl))) (Or.inr (hw _ (own_m 24 rfl))) (by decide) (t := (.array .byte)) (t' := .int) (by decide) (by decide))))
  have f18 := ((f5.other W9 (Ne.symm (Nat.ne_of_lt (Nat.lt_of_lt_of_le P2.lt (Nat.le_of_eq g2.symm))))).other W14 (Ne.symm (Nat.ne_of_lt (Nat.lt_of_lt_of_le P2.lt (Nat.le_of_eq g2.symm)))))
  have f19 := ((EA2.wr W9).wr W14)
  have K20 := (((K0.ext E2).wr W9 (Or.inl (List.mem_of_getElem? (i := 0) rfl))).wr W14 (Or.inl (List.mem_of_getElem? (i := 0) rfl)))
  exact own_ret0 X14 hx hlk Bd.returns (hb hby own_d_prog_4_method_1_code_72) (by decide) (by decide) (by rw [e14]; exact ⟨b2, kc0, rfl, N16, K20, ge3, sz4, f17, f15, f18, f19⟩)
theorem own_pd0 : parseMethodDescriptor "([BI)V" = some ⟨[(.array .byte), .int], none⟩ := by decide +kernel
theorem own_d_prog_4_method_5_code_0 : decode prog_4_method_5_code 0 = .ok (.aload_n 0, 1) := by decide +kernel
theorem own_d_prog_4_method_5_code_1 : decode prog_4_method_5_code 1 = .ok (.getfield 26, 3) := by decide +kernel
theorem own_d_prog_4_method_5_code_4 : decode prog_4_method_5_code 4 = .ok (.arraylength, 1) := by decide +kernel
theorem own_d_prog_4_method_5_code_5 : decode prog_4_method_5_code 5 = .ok (.bipush 16, 2) := by decide +kernel
theorem own_d_prog_4_method_5_code_7 : decode prog_4_method_5_code 7 = .ok (.if_icmp .ne 7, 3) := by decide +kernel
theorem own_d_prog_4_method_5_code_14 : decode prog_4_method_5_code 14 = .ok (.iconst 0, 1) := by decide +kernel
theorem own_d_prog_4_method_5_code_15 : decode prog_4_method_5_code 15 = .ok (.ireturn, 1) := by decide +kernel
def Q_isIpv6_1 (Z : State) (h0 : Heap) (n0 : Nat) (v : Option Value) (h : Heap) (L : List Loc) : Prop := v = some (.int (0 : Int32)) ∧ Fr n0 L ∧ h = h0
set_option maxRecDepth 65536 in
set_option maxHeartbeats 40000000 in
theorem rm_isIpv6_1 (l : Launch) (Z : State) (a0 : Array Value) (hw : ∀ d ∈ tables_1, d.before a0 Z = true) (ws : List Jvm.Cond) (o0 : Addr) (o1 : Addr) (y0 : Int32) (y1 : Int32) (y2 : Int32) (y3 : Int32) (kc0 : ClassId) (h0 : Heap) (n0 : Nat) (Z0 : n0 ≤ h0.size) (P0 : Fld Z h0 o0 "com/example/appenddb/appenddb/HostAddress" "address" "[B" (.ref o1)) (P1 : Arv Z h0 o1 kc0 .byte (4 : Int32) [(.int y0), (.int y1), (.int y2), (.int y3)] (.int (0 : Int32))) :
    MetFree l (⟨"com/example/appenddb/appenddb/HostAddress", "isIpv6", "()Z"⟩ : MethodName) (head1 (Jvm.Cond.code (⟨"com/example/appenddb/appenddb/HostAddress", "isIpv6", "()Z"⟩ : MethodName) prog_4_method_5_code 1 (some .boolean) :: ws) ({ frames := 0, cells := 0, slots := 0, locals := 0 } : Room)) (fun aA U => aA = #[(.ref o0)] ∧ Z.Warmed39 U.vm ∧ U.heap = h0) (fun _ _ _ _ _ => True) (fun _ U o U' => ∃ v L, o = .returned v ∧ Q_isIpv6_1 Z h0 n0 v U'.heap L ∧ FrameEnd U o U' L ({ frames := 0, cells := 0, slots := 0, locals := 0 } : Room).cells ({ frames := 0, cells := 0, slots := 0, locals := 0 } : Room).slots) := by
  refine MetFree.of_bodySF (plainFor_of_name own_pn_com_example_appenddb_appenddb_HostAddress) hisR ?_
  intro p e s m args below meth c s₁ Bd hml0 hP hK
  obtain ⟨rfl, hZ, hh⟩ := hP
  have hx := Bd.exec
  have hby := Bd.bytes
  have hlk : meth.locks = false := BodyLoose.notSynchronized Bd
  have hml : c.maxLocals = 1 := hml0
  have hown : s.vm.findClass "com/example/appenddb/appenddb/HostAddress" = some m.cls := findClass_of_methodNamed Bd.named
  have hnm := (name_of_methodNamed Bd.named Bd.method).1
  have X0 : Stand p l e ({ frames := 0, cells := 0, slots := 0, locals := 0 } : Room) s m #[(.ref o0)] below meth c s₁ [] 0 0 := Stand.of_body Bd
  have e0 : s₁.heap = h0 := by rw [← hh, Bd.state]; rfl
  have N0 := Fr.nil n0
  show own_Go p e below (own_K s (Q_isIpv6_1 Z h0 n0) ({ frames := 0, cells := 0, slots := 0, locals := 0 } : Room).cells ({ frames := 0, cells := 0, slots := 0, locals := 0 } : Room).slots) (s₁.setTop (entryFrame m #[(.ref o0)] 1))
  rw [(by first | (simp [entryFrame, mkF, argsToLocals, Value.category]; done) | rfl : entryFrame m #[(.ref o0)] 1 = mkF m 0 #[.val (.ref o0)] [])]
  show own_Go p e below _ (s₁.setTop (mkF m 0 #[.val (.ref o0)] []))
  refine own_go (fun _ hr => XS.aloadN X0.here hx rfl (hb hby own_d_prog_4_method_5_code_0) rfl rfl hr) ?_
  show own_Go p e below _ (s₁.setTop (mkF m 1 #[.val (.ref o0)] [(.ref o0)]))
  obtain ⟨T1, X1, e1, st1⟩ := getF X0 hx hZ hown (host := "") (Or.inl (hw _ (own_m 21 rfl))) Via.refl e0 P0 (g := (mkF m 1 #[.val (.ref o0)] [(.ref o0)])) rfl rfl (hb hby own_d_prog_4_method_5_code_1)
  refine own_go st1 ?_
  show own_Go p e below _ (T1.setTop (mkF m 4 #[.val (.ref o0)] [(.ref o1)]))
  refine own_go (fun _ hr => own_alen X1 hx hZ e1 P1 rfl rfl (hb hby own_d_prog_4_method_5_code_4) (XS.bipush X1.here hx rfl (hb hby own_d_prog_4_method_5_code_5) (XS.icmpYes X1.here hx rfl (pc0 := 7) (pc' := 14) rfl (hb hby own_d_prog_4_method_5_code_7) rfl (feq (by decide)).2 (by decide) (by decide) (XS.iconst X1.here hx rfl (hb hby own_d_prog_4_method_5_code_14) hr)))) ?_
  show own_Go p e below _ (T1.setTop (mkF m 15 #[.val (.ref o0)] [(.int (0 : Int32))]))
  exact own_retN X1 hx hlk Bd.returns (t := .boolean) (by simp) (hb hby own_d_prog_4_method_5_code_15) (by decide) (by decide) ⟨rfl, N0, e1⟩
theorem own_pd1 : parseMethodDescriptor "()Z" = some ⟨[], some .boolean⟩ := by decide +kernel
theorem own_d_prog_4_method_6_code_0 : decode prog_4_method_6_code 0 = .ok (.aload_n 0, 1) := by decide +kernel
theorem own_d_prog_4_method_6_code_1 : decode prog_4_method_6_code 1 = .ok (.getfield 26, 3) := by decide +kernel
theorem own_d_prog_4_method_6_code_4 : decode prog_4_method_6_code 4 = .ok (.arraylength, 1) := by decide +kernel
theorem own_d_prog_4_method_6_code_5 : decode prog_4_method_6_code 5 = .ok (.iconst 4, 1) := by decide +kernel
theorem own_d_prog_4_method_6_code_6 : decode prog_4_method_6_code 6 = .ok (.iadd, 1) := by decide +kernel
theorem own_d_prog_4_method_6_code_7 : decode prog_4_method_6_code 7 = .ok (.ireturn, 1) := by decide +kernel
def Q_encodedLength_2 (Z : State) (h0 : Heap) (n0 : Nat) (v : Option Value) (h : Heap) (L : List Loc) : Prop := v = some (.int (8 : Int32)) ∧ Fr n0 L ∧ h = h0
set_option maxRecDepth 65536 in
set_option maxHeartbeats 40000000 in
theorem rm_encodedLength_2 (l : Launch) (Z : State) (a0 : Array Value) (hw : ∀ d ∈ tables_1, d.before a0 Z = true) (ws : List Jvm.Cond) (o0 : Addr) (o1 : Addr) (y0 : Int32) (y1 : Int32) (y2 : Int32) (y3 : Int32) (kc0 : ClassId) (h0 : Heap) (n0 : Nat) (Z0 : n0 ≤ h0.size) (P0 : Fld Z h0 o0 "com/example/appenddb/appenddb/HostAddress" "address" "[B" (.ref o1)) (P1 : Arv Z h0 o1 kc0 .byte (4 : Int32) [(.int y0), (.int y1), (.int y2), (.int y3)] (.int (0 : Int32))) :
    MetFree l (⟨"com/example/appenddb/appenddb/HostAddress", "encodedLength", "()I"⟩ : MethodName) (head1 (Jvm.Cond.code (⟨"com/example/appenddb/appenddb/HostAddress", "encodedLength", "()I"⟩ : MethodName) prog_4_method_6_code 1 (some .int) :: ws) ({ frames := 0, cells := 0, slots := 0, locals := 0 } : Room)) (fun aA U => aA = #[(.ref o0)] ∧ Z.Warmed39 U.vm ∧ U.heap = h0) (fun _ _ _ _ _ => True) (fun _ U o U' => ∃ v L, o = .returned v ∧ Q_encodedLength_2 Z h0 n0 v U'.heap L ∧ FrameEnd U o U' L ({ frames := 0, cells := 0, slots := 0, locals := 0 } : Room).cells ({ frames := 0, cells := 0, slots := 0, locals := 0 } : Room).slots) := by
  refine MetFree.of_bodySF (plainFor_of_name own_pn_com_example_appenddb_appenddb_HostAddress) hisR ?_
  intro p e s m args below meth c s₁ Bd hml0 hP hK
  obtain ⟨rfl, hZ, hh⟩ := hP
  have hx := Bd.exec
  have hby := Bd.bytes
  have hlk : meth.locks = false := BodyLoose.notSynchronized Bd
  have hml : c.maxLocals = 1 := hml0
  have hown : s.vm.findClass "com/example/appenddb/appenddb/HostAddress" = some m.cls := findClass_of_methodNamed Bd.named
  have hnm := (name_of_methodNamed Bd.named Bd.method).1
  have X0 : Stand p l e ({ frames := 0, cells := 0, slots := 0, locals := 0 } : Room) s m #[(.ref o0)] below meth c s₁ [] 0 0 := Stand.of_body Bd
  have e0 : s₁.heap = h0 := by rw [← hh, Bd.state]; rfl
  have N0 := Fr.nil n0
  show own_Go p e below (own_K s (Q_encodedLength_2 Z h0 n0) ({ frames := 0, cells := 0, slots := 0, locals := 0 } : Room).cells ({ frames := 0, cells := 0, slots := 0, locals := 0 } : Room).slots) (s₁.setTop (entryFrame m #[(.ref o0)] 1))
  rw [(by first | (simp [entryFrame, mkF, argsToLocals, Value.category]; done) | rfl : entryFrame m #[(.ref o0)] 1 = mkF m 0 #[.val (.ref o0)] [])]
  show own_Go p e below _ (s₁.setTop (mkF m 0 #[.val (.ref o0)] []))
  refine own_go (fun _ hr => XS.aloadN X0.here hx rfl (hb hby own_d_prog_4_method_6_code_0) rfl rfl hr) ?_
  show own_Go p e below _ (s₁.setTop (mkF m 1 #[.val (.ref o0)] [(.ref o0)]))
  obtain ⟨T1, X1, e1, st1⟩ := getF X0 hx hZ hown (host := "") (Or.inl (hw _ (own_m 21 rfl))) Via.refl e0 P0 (g := (mkF m 1 #[.val (.ref o0)] [(.ref o0)])) rfl rfl (hb hby own_d_prog_4_method_6_code_1)
  refine own_go st1 ?_
  show own_Go p e below _ (T1.setTop (mkF m 4 #[.val (.ref o0)] [(.ref o1)]))
  refine own_go (fun _ hr => own_alen X1 hx hZ e1 P1 rfl rfl (hb hby own_d_prog_4_method_6_code_4) (XS.iconst X1.here hx rfl (hb hby own_d_prog_4_method_6_code_5) (XS.iadd X1.here hx rfl (hb hby own_d_prog_4_method_6_code_6) rfl hr))) ?_
  show own_Go p e below _ (T1.setTop (mkF m 7 #[.val (.ref o0)] [(.int (8 : Int32))]))
  exact own_retI X1 hx hlk Bd.returns (hb hby own_d_prog_4_method_6_code_7) (by decide) (by decide) ⟨rfl, N0, e1⟩
theorem own_pd2 : parseMethodDescriptor "()I" = some ⟨[], some .int⟩ := by decide +kernel
theorem own_d_prog_4_method_3_code_0 : decode prog_4_method_3_code 0 = .ok (.aload_n 0, 1) := by decide +kernel
theorem own_d_prog_4_method_3_code_1 : decode prog_4_method_3_code 1 = .ok (.getfield 26, 3) := by decide +kernel
theorem own_d_prog_4_method_3_code_4 : decode prog_4_method_3_code 4 = .ok (.invokevirtual 20, 3) := by decide +kernel
theorem own_d_prog_4_method_3_code_7 : decode prog_4_method_3_code 7 = .ok (.checkcast 21, 3) := by decide +kernel
theorem own_d_prog_4_method_3_code_10 : decode prog_4_method_3_code 10 = .ok (.areturn, 1) := by decide +kernel
def Q_getAddress_3 (Z : State) (y0 : Int32) (y1 : Int32) (y2 : Int32) (y3 : Int32) (kc0 : ClassId) (h0 : Heap) (n0 : Nat) (v : Option Value) (h : Heap) (L : List Loc) : Prop := (∃ (b2 : Addr) (kc0 : ClassId), v = some (.ref b2) ∧ Fr n0 L ∧ Keep h0 h [] ∧ n0 ≤ b2 ∧ h0.size ≤ b2 ∧ Arv Z h b2 kc0 .byte (4 : Int32) [(.int y0), (.int y1), (.int y2), (.int y3)] (.int (0 : Int32)) ∧ Exa Z h b2 "[B")
set_option maxRecDepth 65536 in
set_option maxHeartbeats 40000000 in
theorem rm_getAddress_3 (l : Launch) (Z : State) (a0 : Array Value) (hw : ∀ d ∈ tables_1, d.before a0 Z = true) (ws : List Jvm.Cond) (o0 : Addr) (o1 : Addr) (y0 : Int32) (y1 : Int32) (y2 : Int32) (y3 : Int32) (kc0 : ClassId) (h0 : Heap) (n0 : Nat) (Z0 : n0 ≤ h0.size) (P0 : Fld Z h0 o0 "com/example/appenddb/appenddb/HostAddress" "address" "[B" (.ref o1)) (P1 : Arv Z h0 o1 kc0 .byte (4 : Int32) [(.int y0), (.int y1), (.int y2), (.int y3)] (.int (0 : Int32))) (P2 : Exa Z h0 o1 "[B") :
    MetFree l (⟨"com/example/appenddb/appenddb/HostAddress", "getAddress", "()[B"⟩ : MethodName) (head1 (Jvm.Cond.code (⟨"com/example/appenddb/appenddb/HostAddress", "getAddress", "()[B"⟩ : MethodName) prog_4_method_3_code 1 (some (.array .byte)) :: ws) ({ frames := 1, cells := 1, slots := 4, locals := 14 } : Room)) (fun aA U => aA = #[(.ref o0)] ∧ Z.Warmed39 U.vm ∧ U.heap = h0) (fun _ _ _ _ _ => True) (fun _ U o U' => ∃ v L, o = .returned v ∧ Q_getAddress_3 Z y0 y1 y2 y3 kc0 h0 n0 v U'.heap L ∧ FrameEnd U o U' L ({ frames := 1, cells := 1, slots := 4, locals := 14 } : Room).cells ({ frames := 1, cells := 1, slots := 4, locals := 14 } : Room).slots) := by
  refine MetFree.of_bodySF (plainFor_of_name own_pn_com_example_appenddb_appenddb_HostAddress) hisR ?_
  intro p e s m args below meth c s₁ Bd hml0 hP hK
  obtain ⟨rfl, hZ, hh⟩ := hP
  have hx := Bd.exec
  have hby := Bd.bytes
  have hlk : meth.locks = false := BodyLoose.notSynchronized Bd
  have hml : c.maxLocals = 1 := hml0
  have hown : s.vm.findClass "com/example/appenddb/appenddb/HostAddress" = some m.cls := findClass_of_methodNamed Bd.named
  have hnm := (name_of_methodNamed Bd.named Bd.method).1
  have X0 : Stand p l e ({ frames := 1, cells := 1, slots := 4, locals := 14 } : Room) s m #[(.ref o0)] below meth c s₁ [] 0 0 := Stand.of_body Bd
  have e0 : s₁.heap = h0 := by rw [← hh, Bd.state]; rfl
  have N0 := Fr.nil n0
  have K0 : Keep h0 h0 [] := Keep.refl _ _
  show own_Go p e below (own_K s (Q_getAddress_3 Z y0 y1 y2 y3 kc0 h0 n0) ({ frames := 1, cells := 1, slots := 4, locals := 14 } : Room).cells ({ frames := 1, cells := 1, slots := 4, locals := 14 } : Room).slots) (s₁.setTop (entryFrame m #[(.ref o0)] 1))
  rw [(by first | (simp [entryFrame, mkF, argsToLocals, Value.category]; done) | rfl : entryFrame m #[(.ref o0)] 1 = mkF m 0 #[.val (.ref o0)] [])]
  show own_Go p e below _ (s₁.setTop (mkF m 0 #[.val (.ref o0)] []))
  refine own_go (fun _ hr => XS.aloadN X0.here hx rfl (hb hby own_d_prog_4_method_3_code_0) rfl rfl hr) ?_
  show own_Go p e below _ (s₁.setTop (mkF m 1 #[.val (.ref o0)] [(.ref o0)]))
  obtain ⟨T1, X1, e1, st1⟩ := getF X0 hx hZ hown (host := "") (Or.inl (hw _ (own_m 21 rfl))) Via.refl e0 P0 (g := (mkF m 1 #[.val (.ref o0)] [(.ref o0)])) rfl rfl (hb hby own_d_prog_4_method_3_code_1)
  refine own_go st1 ?_
  show own_Go p e below _ (T1.setTop (mkF m 4 #[.val (.ref o0)] [(.ref o1)]))
  obtain ⟨T2, h2, X2, e2, E2, A2, EA2, st2⟩ := cloneH X1 hx hZ hown (hw _ (own_m 12 rfl)) (hw _ (own_m 13 rfl)) (hw _ (own_m 17 rfl)) (hw _ (own_m 15 rfl)) (hw _ (own_m 16 rfl)) (hw _ (own_m 18 rfl)) e1 P1.arh P2 (g := (mkF m 4 #[.val (.ref o0)] [(.ref o1)])) rfl (by rw [hml]; rfl) rfl (hb hby own_d_prog_4_method_3_code_4) (by decide) (W := 0) (cap := 4) (by show 2 * 0 + _ ≤ _; exact Nat.le_of_eq rfl) (by decide) (by decide) (by decide) (by decide)
  obtain ⟨b2, g2⟩ : ∃ z, z = h0.size := ⟨_, rfl⟩
  rw [← g2] at A2 EA2 st2
  have ge3 : n0 ≤ b2 := Nat.le_trans Z0 (Nat.le_of_eq g2.symm)
  have sz4 : h0.size ≤ b2 := Nat.le_trans K0.1 (Nat.le_of_eq g2.symm)
  refine own_go st2 ?_
  have f5 : Arv Z h2 b2 kc0 .byte (4 : Int32) [(.int y0), (.int y1), (.int y2), (.int y3)] (.int (0 : Int32)) := A2
  show own_Go p e below _ (T2.setTop (mkF m 7 #[.val (.ref o0)] [(.ref b2)]))
  obtain ⟨T6, X6, e6, st6⟩ := castY X2 hx hZ hown (hw _ (own_m 19 rfl)) e2 (Ins.self EA2) (g := (mkF m 7 #[.val (.ref o0)] [(.ref b2)])) rfl rfl (hb hby own_d_prog_4_method_3_code_7)
  refine own_go st6 ?_
  show own_Go p e below _ (T6.setTop (mkF m 10 #[.val (.ref o0)] [(.ref b2)]))
  have K7 := (K0.ext E2)
  exact own_retR X6 hx hlk Bd.returns rfl rfl (hb hby own_d_prog_4_method_3_code_10) (by decide) (by decide) (by rw [e6]; exact ⟨b2, kc0, rfl, N0, K7, ge3, sz4, f5, EA2⟩)
theorem own_pd3 : parseMethodDescriptor "()[B" = some ⟨[], some (.array .byte)⟩ := by decide +kernel
theorem own_d_prog_4_method_1_code_10 : decode prog_4_method_1_code 10 = .ok (.aload_n 1, 1) := by decide +kernel
theorem own_d_prog_4_method_1_code_11 : decode prog_4_method_1_code 11 = .ok (.arraylength, 1) := by decide +kernel
theorem own_d_prog_4_method_1_code_12 : decode prog_4_method_1_code 12 = .ok (.bipush 16, 2) := by decide +kernel
theorem own_d_prog_4_method_1_code_14 : decode prog_4_method_1_code 14 = .ok (.if_icmp .eq 18, 3) := by decide +kernel
def Q_init_4 (Z : State) (o0 : Addr) (y0 : Int32) (y1 : Int32) (y2 : Int32) (y3 : Int32) (y4 : Int32) (y5 : Int32) (y6 : Int32) (y7 : Int32) (y8 : Int32) (y9 : Int32) (y10 : Int32) (y11 : Int32) (y12 : Int32) (y13 : Int32) (y14 : Int32) (y15 : Int32) (y16 : Int32) (kc0 : ClassId) (h0 : Heap) (n0 : Nat) (v : Option Value) (h : Heap) (L : List Loc) : Prop := (∃ (b2 : Addr) (kc0 : ClassId), v = none ∧ Fr n0 L ∧ Keep h0 h [o0] ∧ n0 ≤ b2 ∧ h0.size ≤ b2 ∧ Fld Z h o0 "com/example/appenddb/appenddb/HostAddress" "address" "[B" (.ref b2) ∧ Fld Z h o0 "com/example/appenddb/appenddb/HostAddress" "port" "I" (.int y0) ∧ Arv Z h b2 kc0 .byte (16 : Int32) [(.int y1), (.int y2), (.int y3), (.int y4), (.int y5), (.int y6), (.int y7), (.int y8), (.int y9), (.int y10), (.int y11), (.int y12), (.int y13), (.int y14), (.int y15), (.int y16)] (.int (0 : Int32)) ∧ Exa Z h b2 "[B")
set_option maxRecDepth 65536 in
set_option maxHeartbeats 40000000 in
theorem rm_init_4 (l : Launch) (Z : State) (a0 : Array Value) (hw : ∀ d ∈ tables_1, d.before a0 Z = true) (ws : List Jvm.Cond) (o0 : Addr) (o1 : Addr) (y0 : Int32) (y1 : Int32) (y2 : Int32) (y3 : Int32) (y4 : Int32) (y5 : Int32) (y6 : Int32) (y7 : Int32) (y8 : Int32) (y9 : Int32) (y10 : Int32) (y11 : Int32) (y12 : Int32) (y13 : Int32) (y14 : Int32) (y15 : Int32) (y16 : Int32) (kc0 : ClassId) (h0 : Heap) (n0 : Nat) (Z0 : n0 ≤ h0.size) (P0 : Arv Z h0 o1 kc0 .byte (16 : Int32) [(.int y1), (.int y2), (.int y3), (.int y4), (.int y5), (.int y6), (.int y7), (.int y8), (.int y9), (.int y10), (.int y11), (.int y12), (.int y13), (.int y14), (.int y15), (.int y16)] (.int (0 : Int32))) (P1 : Exa Z h0 o1 "[B") (P2 : Exa Z h0 o0 "com/example/appenddb/appenddb/HostAddress") (P3 : Fld Z h0 o0 "com/example/appenddb/appenddb/HostAddress" "address" "[B" .null) (P4 : Fld Z h0 o0 "com/example/appenddb/appenddb/HostAddress" "port" "I" (.int (0 : Int32))) (ge0p : n0 ≤ o0) (hb0 : ¬ (y0 < (0 : Int32))) (hb1 : ¬ ((65535 : Int32) < y0)) :
    MetFree l (⟨"com/example/appenddb/appenddb/HostAddress", "<init>", "([BI)V"⟩ : MethodName) (head1 (Jvm.Cond.code (⟨"com/example/appenddb/appenddb/HostAddress", "<init>", "([BI)V"⟩ : MethodName) prog_4_method_1_code 3 none :: ws) ({ frames := 1, cells := 1, slots := 16, locals := 15 } : Room)) (fun aA U => aA = #[(.ref o0), (.ref o1), (.int y0)] ∧ Z.Warmed39 U.vm ∧ U.heap = h0) (fun _ _ _ _ _ => True) (fun _ U o U' => ∃ v L, o = .returned v ∧ Q_init_4 Z o0 y0 y1 y2 y3 y4 y5 y6 y7 y8 y9 y10 y11 y12 y13 y14 y15 y16 kc0 h0 n0 v U'.heap L ∧ FrameEnd U o U' L ({ frames := 1, cells := 1, slots := 16, locals := 15 } : Room).cells ({ frames := 1, cells := 1, slots := 16, locals := 15 } : Room).slots) := by
  refine MetFree.of_bodySF (plainFor_of_name own_pn_com_example_appenddb_appenddb_HostAddress) hisR ?_
  intro p e s m args below meth c s₁ Bd hml0 hP hK
  obtain ⟨rfl, hZ, hh⟩ := hP
  have hx := Bd.exec
  have hby := Bd.bytes
  have hlk : meth.locks = false := BodyLoose.notSynchronized Bd
  have hml : c.maxLocals = 3 := hml0
  have hown : s.vm.findClass "com/example/appenddb/appenddb/HostAddress" = some m.cls := findClass_of_methodNamed Bd.named
  have hnm := (name_of_methodNamed Bd.named Bd.method).1
  have X0 : Stand p l e ({ frames := 1, cells := 1, slots := 16, locals := 15 } : Room) s m #[(.ref o0), (.ref o1), (.int y0)] below meth c s₁ [] 0 0 := Stand.of_body Bd
  have e0 : s₁.heap = h0 := by rw [← hh, Bd.state]; rfl
  have N0 := Fr.nil n0
  have K0 : Keep h0 h0 [o0] := Keep.refl _ _
  show own_Go p e below (own_K s (Q_init_4 Z o0 y0 y1 y2 y3 y4 y5 y6 y7 y8 y9 y10 y11 y12 y13 y14 y15 y16 kc0 h0 n0) ({ frames := 1, cells := 1, slots := 16, locals := 15 } : Room).cells ({ frames := 1, cells := 1, slots := 16, locals := 15 } : Room).slots) (s₁.setTop (entryFrame m #[(.ref o0), (.ref o1), (.int y0)] 3))
  rw [(by first | (simp [entryFrame, mkF, argsToLocals, Value.category]; done) | rfl : entryFrame m #[(.ref o0), (.ref o1), (.int y0)] 3 = mkF m 0 #[.val (.ref o0), .val (.ref o1), .val (.int y0)] [])]
  show own_Go p e below _ (s₁.setTop (mkF m 0 #[.val (.ref o0), .val (.ref o1), .val (.int y0)] []))
  refine own_go (fun _ hr => XS.aloadN X0.here hx rfl (hb hby own_d_prog_4_method_1_code_0) rfl rfl hr) ?_
  show own_Go p e below _ (s₁.setTop (mkF m 1 #[.val (.ref o0), .val (.ref o1), .val (.int y0)] [(.ref o0)]))
  obtain ⟨T1, X1, e1, st1⟩ := initO X0 hx hZ hown (hw _ (own_m 8 rfl)) (hw _ (own_m 9 rfl)) (hw _ (own_m 10 rfl)) e0 (g := (mkF m 1 #[.val (.ref o0), .val (.ref o1), .val (.int y0)] [(.ref o0)])) rfl (by rw [hml]; rfl) rfl (hb hby own_d_prog_4_method_1_code_1) (by decide) (W := 0) (by show 2 * 0 + _ ≤ _; exact Nat.le_of_eq rfl) (by decide)
  refine own_go st1 ?_
  show own_Go p e below _ (T1.setTop (mkF m 4 #[.val (.ref o0), .val (.ref o1), .val (.int y0)] []))
  refine own_go (fun _ hr => XS.aloadN X1.here hx rfl (hb hby own_d_prog_4_method_1_code_4) rfl rfl (own_alen X1 hx hZ e1 P0 rfl rfl (hb hby own_d_prog_4_method_1_code_5) (XS.iconst X1.here hx rfl (hb hby own_d_prog_4_method_1_code_6) (XS.icmpNo X1.here hx rfl (hb hby own_d_prog_4_method_1_code_7) rfl (feq (by decide)).1 (XS.aloadN X1.here hx rfl (hb hby own_d_prog_4_method_1_code_10) rfl rfl (own_alen X1 hx hZ e1 P0 rfl rfl (hb hby own_d_prog_4_method_1_code_11) (XS.bipush X1.here hx rfl (hb hby own_d_prog_4_method_1_code_12) (XS.icmpYes X1.here hx rfl (pc0 := 14) (pc' := 32) rfl (hb hby own_d_prog_4_method_1_code_14) rfl (teq (by decide)).1 (by decide) (by decide) (XS.iloadN X1.here hx rfl (hb hby own_d_prog_4_method_1_code_32) rfl hr))))))))) ?_
  show own_Go p e below _ (T1.setTop (mkF m 33 #[.val (.ref o0), .val (.ref o1), .val (.int y0)] [(.int y0)]))
  refine own_go (fun _ hr => XS.ifNo X1.here hx rfl (hb hby own_d_prog_4_method_1_code_33) rfl ((if0 _ _).trans (flt hb0).1) hr) ?_
  show own_Go p e below _ (T1.setTop (mkF m 36 #[.val (.ref o0), .val (.ref o1), .val (.int y0)] []))
  refine own_go (fun _ hr => XS.iloadN X1.here hx rfl (hb hby own_d_prog_4_method_1_code_36) rfl hr) ?_
  show own_Go p e below _ (T1.setTop (mkF m 37 #[.val (.ref o0), .val (.ref o1), .val (.int y0)] [(.int y0)]))
  refine own_go (X1.ldcInt hx hown (mvT hZ (hw _ (own_m 11 rfl))) rfl (hb hby own_d_prog_4_method_1_code_37)) ?_
  show own_Go p e below _ (T1.setTop (mkF m 39 #[.val (.ref o0), .val (.ref o1), .val (.int y0)] [(.int (65535 : Int32)), (.int y0)]))
  refine own_go (fun _ hr => XS.icmpYes X1.here hx rfl (pc0 := 39) (pc' := 56) rfl (hb hby own_d_prog_4_method_1_code_39) rfl (flt hb1).2.2.2 (by decide) (by decide) hr) ?_
  show own_Go p e below _ (T1.setTop (mkF m 56 #[.val (.ref o0), .val (.ref o1), .val (.int y0)] []))
  refine own_go (fun _ hr => XS.aloadN X1.here hx rfl (hb hby own_d_prog_4_method_1_code_56) rfl rfl (XS.aloadN X1.here hx rfl (hb hby own_d_prog_4_method_1_code_57) rfl rfl hr)) ?_
  show own_Go p e below _ (T1.setTop (mkF m 58 #[.val (.ref o0), .val (.ref o1), .val (.int y0)] [(.ref o1), (.ref o0)]))
  obtain ⟨T2, h2, X2, e2, E2, A2, EA2, st2⟩ := cloneH X1 hx hZ hown (hw _ (own_m 12 rfl)) (hw _ (own_m 13 rfl)) (hw _ (own_m 17 rfl)) (hw _ (own_m 15 rfl)) (hw _ (own_m 16 rfl)) (hw _ (own_m 18 rfl)) e1 P0.arh P1 (g := (mkF m 58 #[.val (.ref o0), .val (.ref o1), .val (.int y0)] [(.ref o1), (.ref o0)])) rfl (by rw [hml]; rfl) rfl (hb hby own_d_prog_4_method_1_code_58) (by decide) (W := 1) (cap := 16) (by show 2 * 0 + _ ≤ _; exact Nat.le_of_eq rfl) (by decide) (by decide) (by decide) (by decide)
  obtain ⟨b2, g2⟩ : ∃ z, z = h0.size := ⟨_, rfl⟩
  rw [← g2] at A2 EA2 st2
  have ge3 : n0 ≤ b2 := Nat.le_trans Z0 (Nat.le_of_eq g2.symm)
  have sz4 : h0.size ≤ b2 := Nat.le_trans K0.1 (Nat.le_of_eq g2.symm)
  refine own_go st2 ?_
  have f5 : Arv Z h2 b2 kc0 .byte (16 : Int32) [(.int y1), (.int y2), (.int y3), (.int y4), (.int y5), (.int y6), (.int y7), (.int y8), (.int y9), (.int y10), (.int y11), (.int y12), (.int y13), (.int y14), (.int y15), (.int y16)] (.int (0 : Int32)) := A2
  show own_Go p e below _ (T2.setTop (mkF m 61 #[.val (.ref o0), .val (.ref o1), .val (.int y0)] [(.ref b2), (.ref o0)]))
  obtain ⟨T6, X6, e6, st6⟩ := castY X2 hx hZ hown (hw _ (own_m 19 rfl)) e2 (Ins.self EA2) (g := (mkF m 61 #[.val (.ref o0), .val (.ref o1), .val (.int y0)] [(.ref b2), (.ref o0)])) rfl rfl (hb hby own_d_prog_4_method_1_code_61)
  refine own_go st6 ?_
  show own_Go p e below _ (T6.setTop (mkF m 64 #[.val (.ref o0), .val (.ref o1), .val (.int y0)] [(.ref b2), (.ref o0)]))
  have f7 := (P2.ext E2)
  have f8 := (P3.ext E2)
  obtain ⟨T9, h9, X9, e9, W9, st9⟩ := putF X6 hx hZ hown (host := "") (Or.inl (hw _ (own_m 21 rfl))) Via.refl e6 f8 f7 (Or.inr ⟨(hw _ (own_m 22 rfl)), rfl, hnm⟩) (hw _ (own_m 3 rfl)) (ty := (.array .byte)) (by decide) rfl rfl (g := (mkF m 64 #[.val (.ref o0), .val (.ref o1), .val (.int y0)] [(.ref b2), (.ref o0)])) rfl rfl (hb hby own_d_prog_4_method_1_code_64)
  refine own_go st9 ?_
  have f10 := f8.same W9
  have N11 := Fr.snoc X9 N0 ge0p
  show own_Go p e below _ (T9.setTop (mkF m 67 #[.val (.ref o0), .val (.ref o1), .val (.int y0)] []))
  refine own_go (fun _ hr => XS.aloadN X9.here hx rfl (hb hby own_d_prog_4_method_1_code_67) rfl rfl (XS.iloadN X9.here hx rfl (hb hby own_d_prog_4_method_1_code_68) rfl hr)) ?_
  show own_Go p e below _ (T9.setTop (mkF m 69 #[.val (.ref o0), .val (.ref o1), .val (.int y0)] [(.int y0), (.ref o0)]))
  have f12 := (f7.wr W9)
  have f13 := ((P4.ext E2).other W9 (Or.inr (slot_ne (Or.inr (hw _ (own_m 24 rfl))) (Or.inr (hw _ (own_m 22 rfl))) (by decide) (t := .int) (t' := (.array .byte)) (by decide) (by decide))))
  obtain ⟨T14, h14, X14, e14, W14, st14⟩ := putF X9 hx hZ hown (host := "") (Or.inl (hw _ (own_m 23 rfl))) Via.refl e9 f13 f12 (Or.inr ⟨(hw _ (own_m 24 rfl)), rfl, hnm⟩) (hw _ (own_m 3 rfl)) (ty := .int) (by decide) rfl rfl (g := (mkF m 69 #[.val (.ref o0), .val (.ref o1), .val (.int y0)] [(.int y0), (.ref o0)])) rfl rfl (hb hby own_d_prog_4_method_1_code_69)
  refine own_go st14 ?_
  have f15 := f13.same W14
  have N16 := Fr.snoc X14 N11 ge0p
  show own_Go p e below _ (T14.setTop (mkF m 72 #[.val (.ref o0), .val (.ref o1), .val (.int y0)] []))
  have f17 := (f10.other W14 (Or.inr (slot_ne (Or.inr (hw _ (own_m 22 rfl))) (Or.inr (hw _ (own_m 24 rfl))) (by decide) (t := (.array .byte)) (t' := .int) (by decide) (by decide))))
  have f18 := ((f5.other W9 (Ne.symm (Nat.ne_of_lt (Nat.lt_of_lt_of_le P2.lt (Nat.le_of_eq g2.symm))))).other W14 (Ne.symm (Nat.ne_of_lt (Nat.lt_of_lt_of_le P2.lt (Nat.le_of_eq g2.symm)))))
  have f19 := ((EA2.wr W9).wr W14)
  have K20 := (((K0.ext E2).wr W9 (Or.inl (List.mem_of_getElem? (i := 0) rfl))).wr W14 (Or.inl (List.mem_of_getElem? (i := 0) rfl)))
  exact own_ret0 X14 hx hlk Bd.returns (hb hby own_d_prog_4_method_1_code_72) (by decide) (by decide) (by rw [e14]; exact ⟨b2, kc0, rfl, N16, K20, ge3, sz4, f17, f15, f18, f19⟩)
theorem own_d_prog_4_method_5_code_10 : decode prog_4_method_5_code 10 = .ok (.iconst 1, 1) := by decide +kernel
theorem own_d_prog_4_method_5_code_11 : decode prog_4_method_5_code 11 = .ok (.goto 4, 3) := by decide +kernel
def Q_isIpv6_5 (Z : State) (h0 : Heap) (n0 : Nat) (v : Option Value) (h : Heap) (L : List Loc) : Prop := v = some (.int (1 : Int32)) ∧ Fr n0 L ∧ h = h0
set_option maxRecDepth 65536 in
set_option maxHeartbeats 40000000 in
theorem rm_isIpv6_5 (l : Launch) (Z : State) (a0 : Array Value) (hw : ∀ d ∈ tables_1, d.before a0 Z = true) (ws : List Jvm.Cond) (o0 : Addr) (o1 : Addr) (y0 : Int32) (y1 : Int32) (y2 : Int32) (y3 : Int32) (y4 : Int32) (y5 : Int32) (y6 : Int32) (y7 : Int32) (y8 : Int32) (y9 : Int32) (y10 : Int32) (y11 : Int32) (y12 : Int32) (y13 : Int32) (y14 : Int32) (y15 : Int32) (kc0 : ClassId) (h0 : Heap) (n0 : Nat) (Z0 : n0 ≤ h0.size) (P0 : Fld Z h0 o0 "com/example/appenddb/appenddb/HostAddress" "address" "[B" (.ref o1)) (P1 : Arv Z h0 o1 kc0 .byte (16 : Int32) [(.int y0), (.int y1), (.int y2), (.int y3), (.int y4), (.int y5), (.int y6), (.int y7), (.int y8), (.int y9), (.int y10), (.int y11), (.int y12), (.int y13), (.int y14), (.int y15)] (.int (0 : Int32))) :
    MetFree l (⟨"com/example/appenddb/appenddb/HostAddress", "isIpv6", "()Z"⟩ : MethodName) (head1 (Jvm.Cond.code (⟨"com/example/appenddb/appenddb/HostAddress", "isIpv6", "()Z"⟩ : MethodName) prog_4_method_5_code 1 (some .boolean) :: ws) ({ frames := 0, cells := 0, slots := 0, locals := 0 } : Room)) (fun aA U => aA = #[(.ref o0)] ∧ Z.Warmed39 U.vm ∧ U.heap = h0) (fun _ _ _ _ _ => True) (fun _ U o U' => ∃ v L, o = .returned v ∧ Q_isIpv6_5 Z h0 n0 v U'.heap L ∧ FrameEnd U o U' L ({ frames := 0, cells := 0, slots := 0, locals := 0 } : Room).cells ({ frames := 0, cells := 0, slots := 0, locals := 0 } : Room).slots) := by
  refine MetFree.of_bodySF (plainFor_of_name own_pn_com_example_appenddb_appenddb_HostAddress) hisR ?_
  intro p e s m args below meth c s₁ Bd hml0 hP hK
  obtain ⟨rfl, hZ, hh⟩ := hP
  have hx := Bd.exec
  have hby := Bd.bytes
  have hlk : meth.locks = false := BodyLoose.notSynchronized Bd
  have hml : c.maxLocals = 1 := hml0
  have hown : s.vm.findClass "com/example/appenddb/appenddb/HostAddress" = some m.cls := findClass_of_methodNamed Bd.named
  have hnm := (name_of_methodNamed Bd.named Bd.method).1
  have X0 : Stand p l e ({ frames := 0, cells := 0, slots := 0, locals := 0 } : Room) s m #[(.ref o0)] below meth c s₁ [] 0 0 := Stand.of_body Bd
  have e0 : s₁.heap = h0 := by rw [← hh, Bd.state]; rfl
  have N0 := Fr.nil n0
  show own_Go p e below (own_K s (Q_isIpv6_5 Z h0 n0) ({ frames := 0, cells := 0, slots := 0, locals := 0 } : Room).cells ({ frames := 0, cells := 0, slots := 0, locals := 0 } : Room).slots) (s₁.setTop (entryFrame m #[(.ref o0)] 1))
  rw [(by first | (simp [entryFrame, mkF, argsToLocals, Value.category]; done) | rfl : entryFrame m #[(.ref o0)] 1 = mkF m 0 #[.val (.ref o0)] [])]
  show own_Go p e below _ (s₁.setTop (mkF m 0 #[.val (.ref o0)] []))
  refine own_go (fun _ hr => XS.aloadN X0.here hx rfl (hb hby own_d_prog_4_method_5_code_0) rfl rfl hr) ?_
  show own_Go p e below _ (s₁.setTop (mkF m 1 #[.val (.ref o0)] [(.ref o0)]))
  obtain ⟨T1, X1, e1, st1⟩ := getF X0 hx hZ hown (host := "") (Or.inl (hw _ (own_m 21 rfl))) Via.refl e0 P0 (g := (mkF m 1 #[.val (.ref o0)] [(.ref o0)])) rfl rfl (hb hby own_d_prog_4_method_5_code_1)
  refine own_go st1 ?_
  show own_Go p e below _ (T1.setTop (mkF m 4 #[.val (.ref o0)] [(.ref o1)]))
  refine own_go (fun _ hr => own_alen X1 hx hZ e1 P1 rfl rfl (hb hby own_d_prog_4_method_5_code_4) (XS.bipush X1.here hx rfl (hb hby own_d_prog_4_method_5_code_5) (XS.icmpNo X1.here hx rfl (hb hby own_d_prog_4_method_5_code_7) rfl (teq (by decide)).2 (XS.iconst X1.here hx rfl (hb hby own_d_prog_4_method_5_code_10) (XS.goto X1.here hx rfl (pc0 := 11) (pc' := 15) rfl (hb hby own_d_prog_4_method_5_code_11) (by decide) (by decide) hr))))) ?_
  show own_Go p e below _ (T1.setTop (mkF m 15 #[.val (.ref o0)] [(.int (1 : Int32))]))
  exact own_retN X1 hx hlk Bd.returns (t := .boolean) (by simp) (hb hby own_d_prog_4_method_5_code_15) (by decide) (by decide) ⟨rfl, N0, e1⟩
def Q_encodedLength_6 (Z : State) (h0 : Heap) (n0 : Nat) (v : Option Value) (h : Heap) (L : List Loc) : Prop := v = some (.int (20 : Int32)) ∧ Fr n0 L ∧ h = h0
set_option maxRecDepth 65536 in
set_option maxHeartbeats 40000000 in
theorem rm_encodedLength_6 (l : Launch) (Z : State) (a0 : Array Value) (hw : ∀ d ∈ tables_1, d.before a0 Z = true) (ws : List Jvm.Cond) (o0 : Addr) (o1 : Addr) (y0 : Int32) (y1 : Int32) (y2 : Int32) (y3 : Int32) (y4 : Int32) (y5 : Int32) (y6 : Int32) (y7 : Int32) (y8 : Int32) (y9 : Int32) (y10 : Int32) (y11 : Int32) (y12 : Int32) (y13 : Int32) (y14 : Int32) (y15 : Int32) (kc0 : ClassId) (h0 : Heap) (n0 : Nat) (Z0 : n0 ≤ h0.size) (P0 : Fld Z h0 o0 "com/example/appenddb/appenddb/HostAddress" "address" "[B" (.ref o1)) (P1 : Arv Z h0 o1 kc0 .byte (16 : Int32) [(.int y0), (.int y1), (.int y2), (.int y3), (.int y4), (.int y5), (.int y6), (.int y7), (.int y8), (.int y9), (.int y10), (.int y11), (.int y12), (.int y13), (.int y14), (.int y15)] (.int (0 : Int32))) :
    MetFree l (⟨"com/example/appenddb/appenddb/HostAddress", "encodedLength", "()I"⟩ : MethodName) (head1 (Jvm.Cond.code (⟨"com/example/appenddb/appenddb/HostAddress", "encodedLength", "()I"⟩ : MethodName) prog_4_method_6_code 1 (some .int) :: ws) ({ frames := 0, cells := 0, slots := 0, locals := 0 } : Room)) (fun aA U => aA = #[(.ref o0)] ∧ Z.Warmed39 U.vm ∧ U.heap = h0) (fun _ _ _ _ _ => True) (fun _ U o U' => ∃ v L, o = .returned v ∧ Q_encodedLength_6 Z h0 n0 v U'.heap L ∧ FrameEnd U o U' L ({ frames := 0, cells := 0, slots := 0, locals := 0 } : Room).cells ({ frames := 0, cells := 0, slots := 0, locals := 0 } : Room).slots) := by
  refine MetFree.of_bodySF (plainFor_of_name own_pn_com_example_appenddb_appenddb_HostAddress) hisR ?_
  intro p e s m args below meth c s₁ Bd hml0 hP hK
  obtain ⟨rfl, hZ, hh⟩ := hP
  have hx := Bd.exec
  have hby := Bd.bytes
  have hlk : meth.locks = false := BodyLoose.notSynchronized Bd
  have hml : c.maxLocals = 1 := hml0
  have hown : s.vm.findClass "com/example/appenddb/appenddb/HostAddress" = some m.cls := findClass_of_methodNamed Bd.named
  have hnm := (name_of_methodNamed Bd.named Bd.method).1
  have X0 : Stand p l e ({ frames := 0, cells := 0, slots := 0, locals := 0 } : Room) s m #[(.ref o0)] below meth c s₁ [] 0 0 := Stand.of_body Bd
  have e0 : s₁.heap = h0 := by rw [← hh, Bd.state]; rfl
  have N0 := Fr.nil n0
  show own_Go p e below (own_K s (Q_encodedLength_6 Z h0 n0) ({ frames := 0, cells := 0, slots := 0, locals := 0 } : Room).cells ({ frames := 0, cells := 0, slots := 0, locals := 0 } : Room).slots) (s₁.setTop (entryFrame m #[(.ref o0)] 1))
  rw [(by first | (simp [entryFrame, mkF, argsToLocals, Value.category]; done) | rfl : entryFrame m #[(.ref o0)] 1 = mkF m 0 #[.val (.ref o0)] [])]
  show own_Go p e below _ (s₁.setTop (mkF m 0 #[.val (.ref o0)] []))
  refine own_go (fun _ hr => XS.aloadN X0.here hx rfl (hb hby own_d_prog_4_method_6_code_0) rfl rfl hr) ?_
  show own_Go p e below _ (s₁.setTop (mkF m 1 #[.val (.ref o0)] [(.ref o0)]))
  obtain ⟨T1, X1, e1, st1⟩ := getF X0 hx hZ hown (host := "") (Or.inl (hw _ (own_m 21 rfl))) Via.refl e0 P0 (g := (mkF m 1 #[.val (.ref o0)] [(.ref o0)])) rfl rfl (hb hby own_d_prog_4_method_6_code_1)
  refine own_go st1 ?_
  show own_Go p e below _ (T1.setTop (mkF m 4 #[.val (.ref o0)] [(.ref o1)]))
  refine own_go (fun _ hr => own_alen X1 hx hZ e1 P1 rfl rfl (hb hby own_d_prog_4_method_6_code_4) (XS.iconst X1.here hx rfl (hb hby own_d_prog_4_method_6_code_5) (XS.iadd X1.here hx rfl (hb hby own_d_prog_4_method_6_code_6) rfl hr))) ?_
  show own_Go p e below _ (T1.setTop (mkF m 7 #[.val (.ref o0)] [(.int (20 : Int32))]))
  exact own_retI X1 hx hlk Bd.returns (hb hby own_d_prog_4_method_6_code_7) (by decide) (by decide) ⟨rfl, N0, e1⟩
def Q_getAddress_7 (Z : State) (y0 : Int32) (y1 : Int32) (y2 : Int32) (y3 : Int32) (y4 : Int32) (y5 : Int32) (y6 : Int32) (y7 : Int32) (y8 : Int32) (y9 : Int32) (y10 : Int32) (y11 : Int32) (y12 : Int32) (y13 : Int32) (y14 : Int32) (y15 : Int32) (kc0 : ClassId) (h0 : Heap) (n0 : Nat) (v : Option Value) (h : Heap) (L : List Loc) : Prop := (∃ (b2 : Addr) (kc0 : ClassId), v = some (.ref b2) ∧ Fr n0 L ∧ Keep h0 h [] ∧ n0 ≤ b2 ∧ h0.size ≤ b2 ∧ Arv Z h b2 kc0 .byte (16 : Int32) [(.int y0), (.int y1), (.int y2), (.int y3), (.int y4), (.int y5), (.int y6), (.int y7), (.int y8), (.int y9), (.int y10), (.int y11), (.int y12), (.int y13), (.int y14), (.int y15)] (.int (0 : Int32)) ∧ Exa Z h b2 "[B")
set_option maxRecDepth 65536 in
set_option maxHeartbeats 40000000 in
theorem rm_getAddress_7 (l : Launch) (Z : State) (a0 : Array Value) (hw : ∀ d ∈ tables_1, d.before a0 Z = true) (ws : List Jvm.Cond) (o0 : Addr) (o1 : Addr) (y0 : Int32) (y1 : Int32) (y2 : Int32) (y3 : Int32) (y4 : Int32) (y5 : Int32) (y6 : Int32) (y7 : Int32) (y8 : Int32) (y9 : Int32) (y10 : Int32) (y11 : Int32) (y12 : Int32) (y13 : Int32) (y14 : Int32) (y15 : Int32) (kc0 : ClassId) (h0 : Heap) (n0 : Nat) (Z0 : n0 ≤ h0.size) (P0 : Fld Z h0 o0 "com/example/appenddb/appenddb/HostAddress" "address" "[B" (.ref o1)) (P1 : Arv Z h0 o1 kc0 .byte (16 : Int32) [(.int y0), (.int y1), (.int y2), (.int y3), (.int y4), (.int y5), (.int y6), (.int y7), (.int y8), (.int y9), (.int y10), (.int y11), (.int y12), (.int y13), (.int y14), (.int y15)] (.int (0 : Int32))) (P2 : Exa Z h0 o1 "[B") :
    MetFree l (⟨"com/example/appenddb/appenddb/HostAddress", "getAddress", "()[B"⟩ : MethodName) (head1 (Jvm.Cond.code (⟨"com/example/appenddb/appenddb/HostAddress", "getAddress", "()[B"⟩ : MethodName) prog_4_method_3_code 1 (some (.array .byte)) :: ws) ({ frames := 1, cells := 1, slots := 16, locals := 14 } : Room)) (fun aA U => aA = #[(.ref o0)] ∧ Z.Warmed39 U.vm ∧ U.heap = h0) (fun _ _ _ _ _ => True) (fun _ U o U' => ∃ v L, o = .returned v ∧ Q_getAddress_7 Z y0 y1 y2 y3 y4 y5 y6 y7 y8 y9 y10 y11 y12 y13 y14 y15 kc0 h0 n0 v U'.heap L ∧ FrameEnd U o U' L ({ frames := 1, cells := 1, slots := 16, locals := 14 } : Room).cells ({ frames := 1, cells := 1, slots := 16, locals := 14 } : Room).slots) := by
  refine MetFree.of_bodySF (plainFor_of_name own_pn_com_example_appenddb_appenddb_HostAddress) hisR ?_
  intro p e s m args below meth c s₁ Bd hml0 hP hK
  obtain ⟨rfl, hZ, hh⟩ := hP
  have hx := Bd.exec
  have hby := Bd.bytes
  have hlk : meth.locks = false := BodyLoose.notSynchronized Bd
  have hml : c.maxLocals = 1 := hml0
  have hown : s.vm.findClass "com/example/appenddb/appenddb/HostAddress" = some m.cls := findClass_of_methodNamed Bd.named
  have hnm := (name_of_methodNamed Bd.named Bd.method).1
  have X0 : Stand p l e ({ frames := 1, cells := 1, slots := 16, locals := 14 } : Room) s m #[(.ref o0)] below meth c s₁ [] 0 0 := Stand.of_body Bd
  have e0 : s₁.heap = h0 := by rw [← hh, Bd.state]; rfl
  have N0 := Fr.nil n0
  have K0 : Keep h0 h0 [] := Keep.refl _ _
  show own_Go p e below (own_K s (Q_getAddress_7 Z y0 y1 y2 y3 y4 y5 y6 y7 y8 y9 y10 y11 y12 y13 y14 y15 kc0 h0 n0) ({ frames := 1, cells := 1, slots := 16, locals := 14 } : Room).cells ({ frames := 1, cells := 1, slots := 16, locals := 14 } : Room).slots) (s₁.setTop (entryFrame m #[(.ref o0)] 1))
  rw [(by first | (simp [entryFrame, mkF, argsToLocals, Value.category]; done) | rfl : entryFrame m #[(.ref o0)] 1 = mkF m 0 #[.val (.ref o0)] [])]
  show own_Go p e below _ (s₁.setTop (mkF m 0 #[.val (.ref o0)] []))
  refine own_go (fun _ hr => XS.aloadN X0.here hx rfl (hb hby own_d_prog_4_method_3_code_0) rfl rfl hr) ?_
  show own_Go p e below _ (s₁.setTop (mkF m 1 #[.val (.ref o0)] [(.ref o0)]))
  obtain ⟨T1, X1, e1, st1⟩ := getF X0 hx hZ hown (host := "") (Or.inl (hw _ (own_m 21 rfl))) Via.refl e0 P0 (g := (mkF m 1 #[.val (.ref o0)] [(.ref o0)])) rfl rfl (hb hby own_d_prog_4_method_3_code_1)
  refine own_go st1 ?_
  show own_Go p e below _ (T1.setTop (mkF m 4 #[.val (.ref o0)] [(.ref o1)]))
  obtain ⟨T2, h2, X2, e2, E2, A2, EA2, st2⟩ := cloneH X1 hx hZ hown (hw _ (own_m 12 rfl)) (hw _ (own_m 13 rfl)) (hw _ (own_m 17 rfl)) (hw _ (own_m 15 rfl)) (hw _ (own_m 16 rfl)) (hw _ (own_m 18 rfl)) e1 P1.arh P2 (g := (mkF m 4 #[.val (.ref o0)] [(.ref o1)])) rfl (by rw [hml]; rfl) rfl (hb hby own_d_prog_4_method_3_code_4) (by decide) (W := 0) (cap := 16) (by show 2 * 0 + _ ≤ _; exact Nat.le_of_eq rfl) (by decide) (by decide) (by decide) (by decide)
  obtain ⟨b2, g2⟩ : ∃ z, z = h0.size := ⟨_, rfl⟩
  rw [← g2] at A2 EA2 st2
  have ge3 : n0 ≤ b2 := Nat.le_trans Z0 (Nat.le_of_eq g2.symm)
  have sz4 : h0.size ≤ b2 := Nat.le_trans K0.1 (Nat.le_of_eq g2.symm)
  refine own_go st2 ?_
  have f5 : Arv Z h2 b2 kc0 .byte (16 : Int32) [(.int y0), (.int y1), (.int y2), (.int y3), (.int y4), (.int y5), (.int y6), (.int y7), (.int y8), (.int y9), (.int y10), (.int y11), (.int y12), (.int y13), (.int y14), (.int y15)] (.int (0 : Int32)) := A2
  show own_Go p e below _ (T2.setTop (mkF m 7 #[.val (.ref o0)] [(.ref b2)]))
  obtain ⟨T6, X6, e6, st6⟩ := castY X2 hx hZ hown (hw _ (own_m 19 rfl)) e2 (Ins.self EA2) (g := (mkF m 7 #[.val (.ref o0)] [(.ref b2)])) rfl rfl (hb hby own_d_prog_4_method_3_code_7)
  refine own_go st6 ?_
  show own_Go p e below _ (T6.setTop (mkF m 10 #[.val (.ref o0)] [(.ref b2)]))
  have K7 := (K0.ext E2)
  exact own_retR X6 hx hlk Bd.returns rfl rfl (hb hby own_d_prog_4_method_3_code_10) (by decide) (by decide) (by rw [e6]; exact ⟨b2, kc0, rfl, N0, K7, ge3, sz4, f5, EA2⟩)
theorem own_pn_com_example_appenddb_appenddb_HostAddressIsIpv6PinLaw : plainName "com/example/appenddb/appenddb/HostAddressIsIpv6PinLaw" = true := by first | (simp [plainName, overriddenIn]; done) | decide +kernel
def Q_law (Z : State) (h0 : Heap) (n0 : Nat) (v : Option Value) (h : Heap) (L : List Loc) : Prop := v = some (.int 1) ∧ Fr n0 L
set_option maxRecDepth 65536 in
set_option maxHeartbeats 40000000 in
theorem rm_law (l : Launch) (Z : State) (a0 : Array Value) (hw : ∀ d ∈ tables_1, d.before a0 Z = true) (ws : List Jvm.Cond) (x0 : Int32) (x1 : Int64) (x2 : Int64) (x3 : Int32) (h0 : Heap) (n0 : Nat) (Z0 : n0 ≤ h0.size) :
    MetFree l x (head1 (Jvm.Cond.code x code maxLocals ret :: ws) room_1) (fun aA U => aA = #[(.int x0), (.long x1), (.long x2), (.int x3)] ∧ Z.Warmed39 U.vm ∧ U.heap = h0) (fun _ _ _ _ _ => True) (fun _ U o U' => ∃ v L, o = .returned v ∧ Q_law Z h0 n0 v U'.heap L ∧ FrameEnd U o U' L room_1.cells room_1.slots) := by
  refine MetFree.of_bodySF (plainFor_of_name own_pn_com_example_appenddb_appenddb_HostAddressIsIpv6PinLaw) hisR ?_
  intro p e s m args below meth c s₁ Bd hml0 hP hK
  obtain ⟨rfl, hZ, hh⟩ := hP
  have hx := Bd.exec
  have hby := Bd.bytes
  have hlk : meth.locks = false := BodyLoose.notSynchronized Bd
  have hml : c.maxLocals = 15 := hml0
  have hown : s.vm.findClass "com/example/appenddb/appenddb/HostAddressIsIpv6PinLaw" = some m.cls := findClass_of_methodNamed Bd.named
  have hnm := (name_of_methodNamed Bd.named Bd.method).1
  have X0 : Stand p l e room_1 s m #[(.int x0), (.long x1), (.long x2), (.int x3)] below meth c s₁ [] 0 0 := Stand.of_body Bd
  have e0 : s₁.heap = h0 := by rw [← hh, Bd.state]; rfl
  have N0 := Fr.nil n0
  show own_Go p e below (own_K s (Q_law Z h0 n0) room_1.cells room_1.slots) (s₁.setTop (entryFrame m #[(.int x0), (.long x1), (.long x2), (.int x3)] maxLocals))
  rw [(by first | (simp [entryFrame, mkF, argsToLocals, Value.category, maxLocals]; done) | rfl : entryFrame m #[(.int x0), (.long x1), (.long x2), (.int x3)] maxLocals = mkF m 0 #[.val (.int x0), .val (.long x1), .second, .val (.long x2), .second, .val (.int x3), .unset, .unset, .unset, .unset, .unset, .unset, .unset, .unset, .unset] [])]
  show own_Go p e below _ (s₁.setTop (mkF m 0 #[.val (.int x0), .val (.long x1), .second, .val (.long x2), .second, .val (.int x3), .unset, .unset, .unset, .unset, .unset, .unset, .unset, .unset, .unset] []))
  refine own_go (fun _ hr => XS.iloadN X0.here hx rfl (hb hby at_0) rfl (XS.iconst X0.here hx rfl (hb hby at_1) (XS.iand X0.here hx rfl (hb hby at_2) rfl hr))) ?_
  show own_Go p e below _ (s₁.setTop (mkF m 3 #[.val (.int x0), .val (.long x1), .second, .val (.long x2), .second, .val (.int x3), .unset, .unset, .unset, .unset, .unset, .unset, .unset, .unset, .unset] [(.int (x0 &&& (1 : Int32)))]))
  rcases Classical.em ((x0 &&& (1 : Int32)) = (0 : Int32)) with c1 | c1
  · skip
    refine own_go (fun _ hr => XS.ifYes X0.here hx rfl (pc0 := 3) (pc' := 10) rfl (hb hby at_3) rfl ((if0 _ _).trans (teq c1).1) (by decide) (by decide) hr) ?_
    show own_Go p e below _ (s₁.setTop (mkF m 10 #[.val (.int x0), .val (.long x1), .second, .val (.long x2), .second, .val (.int x3), .unset, .unset, .unset, .unset, .unset, .unset, .unset, .unset, .unset] []))
    refine own_go (fun _ hr => XS.iconst X0.here hx rfl (hb hby at_10) (XS.istore X0.here hx rfl (hb hby at_11) rfl (l' := #[.val (.int x0), .val (.long x1), .second, .val (.long x2), .second, .val (.int x3), .val (.int (0 : Int32)), .unset, .unset, .unset, .unset, .unset, .unset, .unset, .unset]) rfl (XS.iload X0.here hx rfl (hb hby at_13) rfl hr))) ?_
    show own_Go p e below _ (s₁.setTop (mkF m 15 #[.val (.int x0), .val (.long x1), .second, .val (.long x2), .second, .val (.int x3), .val (.int (0 : Int32)), .unset, .unset, .unset, .unset, .unset, .unset, .unset, .unset] [(.int x3)]))
    refine own_go (X0.ldcInt hx hown (mvT hZ (hw _ (own_m 0 rfl))) rfl (hb hby at_15)) ?_
    show own_Go p e below _ (s₁.setTop (mkF m 17 #[.val (.int x0), .val (.long x1), .second, .val (.long x2), .second, .val (.int x3), .val (.int (0 : Int32)), .unset, .unset, .unset, .unset, .unset, .unset, .unset, .unset] [(.int (65535 : Int32)), (.int x3)]))
    refine own_go (fun _ hr => XS.iand X0.here hx rfl (hb hby at_17) rfl (XS.istore X0.here hx rfl (hb hby at_18) rfl (l' := #[.val (.int x0), .val (.long x1), .second, .val (.long x2), .second, .val (.int x3), .val (.int (0 : Int32)), .val (.int (x3 &&& (65535 : Int32))), .unset, .unset, .unset, .unset, .unset, .unset, .unset]) rfl (XS.iconst X0.here hx rfl (hb hby at_20) hr))) ?_
    show own_Go p e below _ (s₁.setTop (mkF m 21 #[.val (.int x0), .val (.long x1), .second, .val (.long x2), .second, .val (.int x3), .val (.int (0 : Int32)), .val (.int (x3 &&& (65535 : Int32))), .unset, .unset, .unset, .unset, .unset, .unset, .unset] [(.int (4 : Int32))]))
    obtain ⟨T2, h2, k2, X2, e2, E2, A2, EA2, st2⟩ := newPE X0 hx hZ (hw _ (own_m 1 rfl)) e0 (g := (mkF m 21 #[.val (.int x0), .val (.long x1), .second, .val (.long x2), .second, .val (.int x3), .val (.int (0 : Int32)), .val (.int (x3 &&& (65535 : Int32))), .unset, .unset, .unset, .unset, .unset, .unset, .unset] [(.int (4 : Int32))])) rfl (hb hby at_21) rfl (by decide) (cap := 4) (by decide) (by decide) (by decide) (by decide) (ad := "[B") (by decide)
    obtain ⟨b2, g2⟩ : ∃ z, z = h0.size := ⟨_, rfl⟩
    rw [← g2] at A2 EA2 st2
    have ge3 : n0 ≤ b2 := Nat.le_trans Z0 (Nat.le_of_eq g2.symm)
    refine own_go st2 ?_
    have f4 : Arv Z h2 b2 k2 .byte (4 : Int32) [(.int (0 : Int32)), (.int (0 : Int32)), (.int (0 : Int32)), (.int (0 : Int32))] (.int (0 : Int32)) := (Arv.new A2 (by decide)).pad (pad_rep [] (.int (0 : Int32)) 4)
    show own_Go p e below _ (T2.setTop (mkF m 23 #[.val (.int x0), .val (.long x1), .second, .val (.long x2), .second, .val (.int x3), .val (.int (0 : Int32)), .val (.int (x3 &&& (65535 : Int32))), .unset, .unset, .unset, .unset, .unset, .unset, .unset] [(.ref b2)]))
    refine own_go (fun _ hr => XS.astore X2.here hx rfl (hb hby at_23) rfl rfl (l' := #[.val (.int x0), .val (.long x1), .second, .val (.long x2), .second, .val (.int x3), .val (.int (0 : Int32)), .val (.int (x3 &&& (65535 : Int32))), .val (.ref b2), .unset, .unset, .unset, .unset, .unset, .unset]) rfl (XS.bipush X2.here hx rfl (hb hby at_25) hr)) ?_
    show own_Go p e below _ (T2.setTop (mkF m 27 #[.val (.int x0), .val (.long x1), .second, .val (.long x2), .second, .val (.int x3), .val (.int (0 : Int32)), .val (.int (x3 &&& (65535 : Int32))), .val (.ref b2), .unset, .unset, .unset, .unset, .unset, .unset] [(.int (16 : Int32))]))
    obtain ⟨T5, h5, k5, X5, e5, E5, A5, EA5, st5⟩ := newPE X2 hx hZ (hw _ (own_m 1 rfl)) e2 (g := (mkF m 27 #[.val (.int x0), .val (.long x1), .second, .val (.long x2), .second, .val (.int x3), .val (.int (0 : Int32)), .val (.int (x3 &&& (65535 : Int32))), .val (.ref b2), .unset, .unset, .unset, .unset, .unset, .unset] [(.int (16 : Int32))])) rfl (hb hby at_27) rfl (by decide) (cap := 16) (by decide) (by decide) (by decide) (by decide) (ad := "[B") (by decide)
    obtain ⟨b5, g5⟩ : ∃ z, z = h2.size := ⟨_, rfl⟩
    rw [← g5] at A5 EA5 st5
    have Z6 := (Nat.le_trans Z0 E2.1)
    have ge7 : n0 ≤ b5 := Nat.le_trans Z6 (Nat.le_of_eq g5.symm)
    refine own_go st5 ?_
    have f8 : Arv Z h5 b5 k5 .byte (16 : Int32) [(.int (0 : Int32)), (.int (0 : Int32)), (.int (0 : Int32)), (.int (0 : Int32)), (.int (0 : Int32)), (.int (0 : Int32)), (.int (0 : Int32)), (.int (0 : Int32)), (.int (0 : Int32)), (.int (0 : Int32)), (.int (0 : Int32)), (.int (0 : Int32)), (.int (0 : Int32)), (.int (0 : Int32)), (.int (0 : Int32)), (.int (0 : Int32))] (.int (0 : Int32)) := (Arv.new A5 (by decide)).pad (pad_rep [] (.int (0 : Int32)) 16)
    show own_Go p e below _ (T5.setTop (mkF m 29 #[.val (.int x0), .val (.long x1), .second, .val (.long x2), .second, .val (.int x3), .val (.int (0 : Int32)), .val (.int (x3 &&& (65535 : Int32))), .val (.ref b2), .unset, .unset, .unset, .unset, .unset, .unset] [(.ref b5)]))
    refine own_go (fun _ hr => XS.astore X5.here hx rfl (hb hby at_29) rfl rfl (l' := #[.val (.int x0), .val (.long x1), .second, .val (.long x2), .second, .val (.int x3), .val (.int (0 : Int32)), .val (.int (x3 &&& (65535 : Int32))), .val (.ref b2), .val (.ref b5), .unset, .unset, .unset, .unset, .unset]) rfl (XS.aload X5.here hx rfl (hb hby at_31) rfl rfl (XS.iconst X5.here hx rfl (hb hby at_33) (XS.lloadN X5.here hx rfl (hb hby at_34) rfl (XS.l2i X5.here hx rfl (hb hby at_35) rfl (XS.i2b X5.here hx rfl (hb hby at_36) rfl hr)))))) ?_
    show own_Go p e below _ (T5.setTop (mkF m 37 #[.val (.int x0), .val (.long x1), .second, .val (.long x2), .second, .val (.int x3), .val (.int (0 : Int32)), .val (.int (x3 &&& (65535 : Int32))), .val (.ref b2), .val (.ref b5), .unset, .unset, .unset, .unset, .unset] [(.int ((x1.toInt32).toInt8.toInt32)), (.int (0 : Int32)), (.ref b2)]))
    have f9 := (f4.ext E5)
    have c11 : (nar .byte ((x1.toInt32).toInt8.toInt32)) = ((x1.toInt32).toInt8.toInt32) := by
      have q0 := rng64 x1
      have q1 := c_l2i x1
      have q2 := c_i2b (x1.toInt32)
      have q3 := (show ((nar .byte ((x1.toInt32).toInt8.toInt32)).toInt - ((x1.toInt32).toInt8.toInt32).toInt) % 256 = 0 ∧ -128 ≤ (nar .byte ((x1.toInt32).toInt8.toInt32)).toInt ∧ (nar .byte ((x1.toInt32).toInt8.toInt32)).toInt < 128 from c_i2b ((x1.toInt32).toInt8.toInt32))
      simp only [true_implies, Int32.lt_iff_toInt_lt, ← Int32.toInt_inj, Int32.reduceToInt, Int64.lt_iff_toInt_lt, ← Int64.toInt_inj, Int64.reduceToInt] at q0 q1 q2 q3 ⊢
      omega
    refine own_stB X5 hx hZ e5 f9 (0 : Int32) ((x1.toInt32).toInt8.toInt32) ((x1.toInt32).toInt8.toInt32) 0 ⟨by decide, by decide⟩ rfl (Nat.le_of_ble_eq_true rfl) c11 [(.int ((x1.toInt32).toInt8.toInt32)), (.int (0 : Int32)), (.int (0 : Int32)), (.int (0 : Int32))] rfl N0 ge3 (hb hby at_37) ?_
    intro T10 h10 L10 X10 e10 W10 N10 f10
    show own_Go p e below _ (T10.setTop (mkF m 38 #[.val (.int x0), .val (.long x1), .second, .val (.long x2), .second, .val (.int x3), .val (.int (0 : Int32)), .val (.int (x3 &&& (65535 : Int32))), .val (.ref b2), .val (.ref b5), .unset, .unset, .unset, .unset, .unset] []))
    refine own_go (fun _ hr => XS.aload X10.here hx rfl (hb hby at_38) rfl rfl (XS.iconst X10.here hx rfl (hb hby at_40) (XS.lloadN X10.here hx rfl (hb hby at_41) rfl (XS.bipush X10.here hx rfl (hb hby at_42) (XS.lushr X10.here hx rfl (hb hby at_44) rfl (XS.l2i X10.here hx rfl (hb hby at_45) rfl (XS.i2b X10.here hx rfl (hb hby at_46) rfl hr))))))) ?_
    show own_Go p e below _ (T10.setTop (mkF m 47 #[.val (.int x0), .val (.long x1), .second, .val (.long x2), .second, .val (.int x3), .val (.int (0 : Int32)), .val (.int (x3 &&& (65535 : Int32))), .val (.ref b2), .val (.ref b5), .unset, .unset, .unset, .unset, .unset] [(.int ((((x1.toUInt64 >>> ((8 : Int32) &&& 0x3f).toInt64.toUInt64).toInt64).toInt32).toInt8.toInt32)), (.int (1 : Int32)), (.ref b2)]))
    have c13 : (nar .byte ((((x1.toUInt64 >>> ((8 : Int32) &&& 0x3f).toInt64.toUInt64).toInt64).toInt32).toInt8.toInt32)) = ((((x1.toUInt64 >>> ((8 : Int32) &&& 0x3f).toInt64.toUInt64).toInt64).toInt32).toInt8.toInt32) := by
      have q0 := rng64 x1
      have q1 := c_l2i x1
      have q2 := c_i2b (x1.toInt32)
      have q3 := (show ((nar .byte ((x1.toInt32).toInt8.toInt32)).toInt - ((x1.toInt32).toInt8.toInt32).toInt) % 256 = 0 ∧ -128 ≤ (nar .byte ((x1.toInt32).toInt8.toInt32)).toInt ∧ (nar .byte ((x1.toInt32).toInt8.toInt32)).toInt < 128 from c_i2b ((x1.toInt32).toInt8.toInt32))
      have q4 := c_lushr x1 (8 : Int32) 8 (by decide) (by decide)
      have q5 := c_l2i ((x1.toUInt64 >>> ((8 : Int32) &&& 0x3f).toInt64.toUInt64).toInt64)
      have q6 := c_i2b (((x1.toUInt64 >>> ((8 : Int32) &&& 0x3f).toInt64.toUInt64).toInt64).toInt32)
      have q7 := (show ((nar .byte ((((x1.toUInt64 >>> ((8 : Int32) &&& 0x3f).toInt64.toUInt64).toInt64).toInt32).toInt8.toInt32)).toInt - ((((x1.toUInt64 >>> ((8 : Int32) &&& 0x3f).toInt64.toUInt64).toInt64).toInt32).toInt8.toInt32).toInt) % 256 = 0 ∧ -128 ≤ (nar .byte ((((x1.toUInt64 >>> ((8 : Int32) &&& 0x3f).toInt64.toUInt64).toInt64).toInt32).toInt8.toInt32)).toInt ∧ (nar .byte ((((x1.toUInt64 >>> ((8 : Int32) &&& 0x3f).toInt64.toUInt64).toInt64).toInt32).toInt8.toInt32)).toInt < 128 from c_i2b ((((x1.toUInt64 >>> ((8 : Int32) &&& 0x3f).toInt64.toUInt64).toInt64).toInt32).toInt8.toInt32))
      have p0 := c11
      simp only [true_implies, Int32.lt_iff_toInt_lt, ← Int32.toInt_inj, Int32.reduceToInt, Int64.lt_iff_toInt_lt, ← Int64.toInt_inj, Int64.reduceToInt] at q0 q1 q2 q3 q4 q5 q6 q7 p0 ⊢
      omega
    refine own_stB X10 hx hZ e10 f10 (1 : Int32) ((((x1.toUInt64 >>> ((8 : Int32) &&& 0x3f).toInt64.toUInt64).toInt64).toInt32).toInt8.toInt32) ((((x1.toUInt64 >>> ((8 : Int32) &&& 0x3f).toInt64.toUInt64).toInt64).toInt32).toInt8.toInt32) 1 ⟨by decide, by decide⟩ rfl (Nat.le_of_ble_eq_true rfl) c13 [(.int ((x1.toInt32).toInt8.toInt32)), (.int ((((x1.toUInt64 >>> ((8 : Int32) &&& 0x3f).toInt64.toUInt64).toInt64).toInt32).toInt8.toInt32)), (.int (0 : Int32)), (.int (0 : Int32))] rfl N10 ge3 (hb hby at_47) ?_
    intro T12 h12 L12 X12 e12 W12 N12 f12
    show own_Go p e below _ (T12.setTop (mkF m 48 #[.val (.int x0), .val (.long x1), .second, .val (.long x2), .second, .val (.int x3), .val (.int (0 : Int32)), .val (.int (x3 &&& (65535 : Int32))), .val (.ref b2), .val (.ref b5), .unset, .unset, .unset, .unset, .unset] []))
    refine own_go (fun _ hr => XS.aload X12.here hx rfl (hb hby at_48) rfl rfl (XS.iconst X12.here hx rfl (hb hby at_50) (XS.lloadN X12.here hx rfl (hb hby at_51) rfl (XS.bipush X12.here hx rfl (hb hby at_52) (XS.lushr X12.here hx rfl (hb hby at_54) rfl (XS.l2i X12.here hx rfl (hb hby at_55) rfl (XS.i2b X12.here hx rfl (hb hby at_56) rfl hr))))))) ?_
    show own_Go p e below _ (T12.setTop (mkF m 57 #[.val (.int x0), .val (.long x1), .second, .val (.long x2), .second, .val (.int x3), .val (.int (0 : Int32)), .val (.int (x3 &&& (65535 : Int32))), .val (.ref b2), .val (.ref b5), .unset, .unset, .unset, .unset, .unset] [(.int ((((x1.toUInt64 >>> ((16 : Int32) &&& 0x3f).toInt64.toUInt64).toInt64).toInt32).toInt8.toInt32)), (.int (2 : Int32)), (.ref b2)]))
    have c15 : (nar .byte ((((x1.toUInt64 >>> ((16 : Int32) &&& 0x3f).toInt64.toUInt64).toInt64).toInt32).toInt8.toInt32)) = ((((x1.toUInt64 >>> ((16 : Int32) &&& 0x3f).toInt64.toUInt64).toInt64).toInt32).toInt8.toInt32) := by
      have q0 := rng64 x1
      have q1 := c_l2i x1
      have q2 := c_i2b (x1.toInt32)
      have q3 := (show ((nar .byte ((x1.toInt32).toInt8.toInt32)).toInt - ((x1.toInt32).toInt8.toInt32).toInt) % 256 = 0 ∧ -128 ≤ (nar .byte ((x1.toInt32).toInt8.toInt32)).toInt ∧ (nar .byte ((x1.toInt32).toInt8.toInt32)).toInt < 128 from c_i2b ((x1.toInt32).toInt8.toInt32))
      have q4 := c_lushr x1 (8 : Int32) 8 (by decide) (by decide)
      have q5 := c_l2i ((x1.toUInt64 >>> ((8 : Int32) &&& 0x3f).toInt64.toUInt64).toInt64)
      have q6 := c_i2b (((x1.toUInt64 >>> ((8 : Int32) &&& 0x3f).toInt64.toUInt64).toInt64).toInt32)
      have q7 := (show ((nar .byte ((((x1.toUInt64 >>> ((8 : Int32) &&& 0x3f).toInt64.toUInt64).toInt64).toInt32).toInt8.toInt32)).toInt - ((((x1.toUInt64 >>> ((8 : Int32) &&& 0x3f).toInt64.toUInt64).toInt64).toInt32).toInt8.toInt32).toInt) % 256 = 0 ∧ -128 ≤ (nar .byte ((((x1.toUInt64 >>> ((8 : Int32) &&& 0x3f).toInt64.toUInt64).toInt64).toInt32).toInt8.toInt32)).toInt ∧ (nar .byte ((((x1.toUInt64 >>> ((8 : Int32) &&& 0x3f).toInt64.toUInt64).toInt64).toInt32).toInt8.toInt32)).toInt < 128 from c_i2b ((((x1.toUInt64 >>> ((8 : Int32) &&& 0x3f).toInt64.toUInt64).toInt64).toInt32).toInt8.toInt32))
      have q8 := c_lushr x1 (16 : Int32) 16 (by decide) (by decide)
      have q9 := c_l2i ((x1.toUInt64 >>> ((16 : Int32) &&& 0x3f).toInt64.toUInt64).toInt64)
      have q10 := c_i2b (((x1.toUInt64 >>> ((16 : Int32) &&& 0x3f).toInt64.toUInt64).toInt64).toInt32)
      have q11 := (show ((nar .byte ((((x1.toUInt64 >>> ((16 : Int32) &&& 0x3f).toInt64.toUInt64).toInt64).toInt32).toInt8.toInt32)).toInt - ((((x1.toUInt64 >>> ((16 : Int32) &&& 0x3f).toInt64.toUInt64).toInt64).toInt32).toInt8.toInt32).toInt) % 256 = 0 ∧ -128 ≤ (nar .byte ((((x1.toUInt64 >>> ((16 : Int32) &&& 0x3f).toInt64.toUInt64).toInt64).toInt32).toInt8.toInt32)).toInt ∧ (nar .byte ((((x1.toUInt64 >>> ((16 : Int32) &&& 0x3f).toInt64.toUInt64).toInt64).toInt32).toInt8.toInt32)).toInt < 128 from c_i2b ((((x1.toUInt64 >>> ((16 : Int32) &&& 0x3f).toInt64.toUInt64).toInt64).toInt32).toInt8.toInt32))
      have p0 := c11
      have p1 := c13
      simp only [true_implies, Int32.lt_iff_toInt_lt, ← Int32.toInt_inj, Int32.reduceToInt, Int64.lt_iff_toInt_lt, ← Int64.toInt_inj, Int64.reduceToInt] at q0 q1 q2 q3 q4 q5 q6 q7 q8 q9 q10 q11 p0 p1 ⊢
      omega
    refine own_stB X12 hx hZ e12 f12 (2 : Int32) ((((x1.toUInt64 >>> ((16 : Int32) &&& 0x3f).toInt64.toUInt64).toInt64).toInt32).toInt8.toInt32) ((((x1.toUInt64 >>> ((16 : Int32) &&& 0x3f).toInt64.toUInt64).toInt64).toInt32).toInt8.toInt32) 2 ⟨by decide, by decide⟩ rfl (Nat.le_of_ble_eq_true rfl) c15 [(.int ((x1.toInt32).toInt8.toInt32)), (.int ((((x1.toUInt64 >>> ((8 : Int32) &&& 0x3f).toInt64.toUInt64).toInt64).toInt32).toInt8.toInt32)), (.int ((((x1.toUInt64 >>> ((16 : Int32) &&& 0x3f).toInt64.toUInt64).toInt64).toInt32).toInt8.toInt32)), (.int (0 : Int32))] rfl N12 ge3 (hb hby at_57) ?_
    intro T14 h14 L14 X14 e14 W14 N14 f14
    show own_Go p e below _ (T14.setTop (mkF m 58 #[.val (.int x0), .val (.long x1), .second, .val (.long x2), .second, .val (.int x3), .val (.int (0 : Int32)), .val (.int (x3 &&& (65535 : Int32))), .val (.ref b2), .val (.ref b5), .unset, .unset, .unset, .unset, .unset] []))
    refine own_go (fun _ hr => XS.aload X14.here hx rfl (hb hby at_58) rfl rfl (XS.iconst X14.here hx rfl (hb hby at_60) (XS.lloadN X14.here hx rfl (hb hby at_61) rfl (XS.bipush X14.here hx rfl (hb hby at_62) (XS.lushr X14.here hx rfl (hb hby at_64) rfl (XS.l2i X14.here hx rfl (hb hby at_65) rfl (XS.i2b X14.here hx rfl (hb hby at_66) rfl hr))))))) ?_
    show own_Go p e below _ (T14.setTop (mkF m 67 #[.val (.int x0), .val (.long x1), .second, .val (.long x2), .second, .val (.int x3), .val (.int (0 : Int32)), .val (.int (x3 &&& (65535 : Int32))), .val (.ref b2), .val (.ref b5), .unset, .unset, .unset, .unset, .unset] [(.int ((((x1.toUInt64 >>> ((24 : Int32) &&& 0x3f).toInt64.toUInt64).toInt64).toInt32).toInt8.toInt32)), (.int (3 : Int32)), (.ref b2)]))
    have c17 : (nar .byte ((((x1.toUInt64 >>> ((24 : Int32) &&& 0x3f).toInt64.toUInt64).toInt64).toInt32).toInt8.toInt32)) = ((((x1.toUInt64 >>> ((24 : Int32) &&& 0x3f).toInt64.toUInt64).toInt64).toInt32).toInt8.toInt32) := by
      have q0 := rng64 x1
      have q1 := c_l2i x1
      have q2 := c_i2b (x1.toInt32)
      have q3 := (show ((nar .byte ((x1.toInt32).toInt8.toInt32)).toInt - ((x1.toInt32).toInt8.toInt32).toInt) % 256 = 0 ∧ -128 ≤ (nar .byte ((x1.toInt32).toInt8.toInt32)).toInt ∧ (nar .byte ((x1.toInt32).toInt8.toInt32)).toInt < 128 from c_i2b ((x1.toInt32).toInt8.toInt32))
      have q4 := c_lushr x1 (8 : Int32) 8 (by decide) (by decide)
      have q5 := c_l2i ((x1.toUInt64 >>> ((8 : Int32) &&& 0x3f).toInt64.toUInt64).toInt64)
      have q6 := c_i2b (((x1.toUInt64 >>> ((8 : Int32) &&& 0x3f).toInt64.toUInt64).toInt64).toInt32)
      have q7 := (show ((nar .byte ((((x1.toUInt64 >>> ((8 : Int32) &&& 0x3f).toInt64.toUInt64).toInt64).toInt32).toInt8.toInt32)).toInt - ((((x1.toUInt64 >>> ((8 : Int32) &&& 0x3f).toInt64.toUInt64).toInt64).toInt32).toInt8.toInt32).toInt) % 256 = 0 ∧ -128 ≤ (nar .byte ((((x1.toUInt64 >>> ((8 : Int32) &&& 0x3f).toInt64.toUInt64).toInt64).toInt32).toInt8.toInt32)).toInt ∧ (nar .byte ((((x1.toUInt64 >>> ((8 : Int32) &&& 0x3f).toInt64.toUInt64).toInt64).toInt32).toInt8.toInt32)).toInt < 128 from c_i2b ((((x1.toUInt64 >>> ((8 : Int32) &&& 0x3f).toInt64.toUInt64).toInt64).toInt32).toInt8.toInt32))
      have q8 := c_lushr x1 (16 : Int32) 16 (by decide) (by decide)
      have q9 := c_l2i ((x1.toUInt64 >>> ((16 : Int32) &&& 0x3f).toInt64.toUInt64).toInt64)
      have q10 := c_i2b (((x1.toUInt64 >>> ((16 : Int32) &&& 0x3f).toInt64.toUInt64).toInt64).toInt32)
      have q11 := (show ((nar .byte ((((x1.toUInt64 >>> ((16 : Int32) &&& 0x3f).toInt64.toUInt64).toInt64).toInt32).toInt8.toInt32)).toInt - ((((x1.toUInt64 >>> ((16 : Int32) &&& 0x3f).toInt64.toUInt64).toInt64).toInt32).toInt8.toInt32).toInt) % 256 = 0 ∧ -128 ≤ (nar .byte ((((x1.toUInt64 >>> ((16 : Int32) &&& 0x3f).toInt64.toUInt64).toInt64).toInt32).toInt8.toInt32)).toInt ∧ (nar .byte ((((x1.toUInt64 >>> ((16 : Int32) &&& 0x3f).toInt64.toUInt64).toInt64).toInt32).toInt8.toInt32)).toInt < 128 from c_i2b ((((x1.toUInt64 >>> ((16 : Int32) &&& 0x3f).toInt64.toUInt64).toInt64).toInt32).toInt8.toInt32))
      have q12 := c_lushr x1 (24 : Int32) 24 (by decide) (by decide)
      have q13 := c_l2i ((x1.toUInt64 >>> ((24 : Int32) &&& 0x3f).toInt64.toUInt64).toInt64)
      have q14 := c_i2b (((x1.toUInt64 >>> ((24 : Int32) &&& 0x3f).toInt64.toUInt64).toInt64).toInt32)
      have q15 := (show ((nar .byte ((((x1.toUInt64 >>> ((24 : Int32) &&& 0x3f).toInt64.toUInt64).toInt64).toInt32).toInt8.toInt32)).toInt - ((((x1.toUInt64 >>> ((24 : Int32) &&& 0x3f).toInt64.toUInt64).toInt64).toInt32).toInt8.toInt32).toInt) % 256 = 0 ∧ -128 ≤ (nar .byte ((((x1.toUInt64 >>> ((24 : Int32) &&& 0x3f).toInt64.toUInt64).toInt64).toInt32).toInt8.toInt32)).toInt ∧ (nar .byte ((((x1.toUInt64 >>> ((24 : Int32) &&& 0x3f).toInt64.toUInt64).toInt64).toInt32).toInt8.toInt32)).toInt < 128 from c_i2b ((((x1.toUInt64 >>> ((24 : Int32) &&& 0x3f).toInt64.toUInt64).toInt64).toInt32).toInt8.toInt32))
      have p0 := c11
      have p1 := c13
      have p2 := c15
      simp only [true_implies, Int32.lt_iff_toInt_lt, ← Int32.toInt_inj, Int32.reduceToInt, Int64.lt_iff_toInt_lt, ← Int64.toInt_inj, Int64.reduceToInt] at q0 q1 q2 q3 q4 q5 q6 q7 q8 q9 q10 q11 q12 q13 q14 q15 p0 p1 p2 ⊢
      omega
    refine own_stB X14 hx hZ e14 f14 (3 : Int32) ((((x1.toUInt64 >>> ((24 : Int32) &&& 0x3f).toInt64.toUInt64).toInt64).toInt32).toInt8.toInt32) ((((x1.toUInt64 >>> ((24 : Int32) &&& 0x3f).toInt64.toUInt64).toInt64).toInt32).toInt8.toInt32) 3 ⟨by decide, by decide⟩ rfl (Nat.le_of_ble_eq_true rfl) c17 [(.int ((x1.toInt32).toInt8.toInt32)), (.int ((((x1.toUInt64 >>> ((8 : Int32) &&& 0x3f).toInt64.toUInt64).toInt64).toInt32).toInt8.toInt32)), (.int ((((x1.toUInt64 >>> ((16 : Int32) &&& 0x3f).toInt64.toUInt64).toInt64).toInt32).toInt8.toInt32)), (.int ((((x1.toUInt64 >>> ((24 : Int32) &&& 0x3f).toInt64.toUInt64).toInt64).toInt32).toInt8.toInt32))] rfl N14 ge3 (hb hby at_67) ?_
    intro T16 h16 L16 X16 e16 W16 N16 f16
    show own_Go p e below _ (T16.setTop (mkF m 68 #[.val (.int x0), .val (.long x1), .second, .val (.long x2), .second, .val (.int x3), .val (.int (0 : Int32)), .val (.int (x3 &&& (65535 : Int32))), .val (.ref b2), .val (.ref b5), .unset, .unset, .unset, .unset, .unset] []))
    refine own_go (fun _ hr => XS.aload X16.here hx rfl (hb hby at_68) rfl rfl (XS.iconst X16.here hx rfl (hb hby at_70) (XS.lloadN X16.here hx rfl (hb hby at_71) rfl (XS.l2i X16.here hx rfl (hb hby at_72) rfl (XS.i2b X16.here hx rfl (hb hby at_73) rfl hr))))) ?_
    show own_Go p e below _ (T16.setTop (mkF m 74 #[.val (.int x0), .val (.long x1), .second, .val (.long x2), .second, .val (.int x3), .val (.int (0 : Int32)), .val (.int (x3 &&& (65535 : Int32))), .val (.ref b2), .val (.ref b5), .unset, .unset, .unset, .unset, .unset] [(.int ((x1.toInt32).toInt8.toInt32)), (.int (0 : Int32)), (.ref b5)]))
    have f18 := ((((f8.other W10 (Ne.symm (Nat.ne_of_lt (Nat.lt_of_lt_of_le EA2.lt (Nat.le_of_eq g5.symm))))).other W12 (Ne.symm (Nat.ne_of_lt (Nat.lt_of_lt_of_le EA2.lt (Nat.le_of_eq g5.symm))))).other W14 (Ne.symm (Nat.ne_of_lt (Nat.lt_of_lt_of_le EA2.lt (Nat.le_of_eq g5.symm))))).other W16 (Ne.symm (Nat.ne_of_lt (Nat.lt_of_lt_of_le EA2.lt (Nat.le_of_eq g5.symm)))))
    refine own_stB X16 hx hZ e16 f18 (0 : Int32) ((x1.toInt32).toInt8.toInt32) ((x1.toInt32).toInt8.toInt32) 0 ⟨by decide, by decide⟩ rfl (Nat.le_of_ble_eq_true rfl) c11 [(.int ((x1.toInt32).toInt8.toInt32)), (.int (0 : Int32)), (.int (0 : Int32)), (.int (0 : Int32)), (.int (0 : Int32)), (.int (0 : Int32)), (.int (0 : Int32)), (.int (0 : Int32)), (.int (0 : Int32)), (.int (0 : Int32)), (.int (0 : Int32)), (.int (0 : Int32)), (.int (0 : Int32)), (.int (0 : Int32)), (.int (0 : Int32)), (.int (0 : Int32))] rfl N16 ge7 (hb hby at_74) ?_
    intro T19 h19 L19 X19 e19 W19 N19 f19
    show own_Go p e below _ (T19.setTop (mkF m 75 #[.val (.int x0), .val (.long x1), .second, .val (.long x2), .second, .val (.int x3), .val (.int (0 : Int32)), .val (.int (x3 &&& (65535 : Int32))), .val (.ref b2), .val (.ref b5), .unset, .unset, .unset, .unset, .unset] []))
    refine own_go (fun _ hr => XS.aload X19.here hx rfl (hb hby at_75) rfl rfl (XS.iconst X19.here hx rfl (hb hby at_77) (XS.lloadN X19.here hx rfl (hb hby at_78) rfl (XS.bipush X19.here hx rfl (hb hby at_79) (XS.lushr X19.here hx rfl (hb hby at_81) rfl (XS.l2i X19.here hx rfl (hb hby at_82) rfl (XS.i2b X19.here hx rfl (hb hby at_83) rfl hr))))))) ?_
    show own_Go p e below _ (T19.setTop (mkF m 84 #[.val (.int x0), .val (.long x1), .second, .val (.long x2), .second, .val (.int x3), .val (.int (0 : Int32)), .val (.int (x3 &&& (65535 : Int32))), .val (.ref b2), .val (.ref b5), .unset, .unset, .unset, .unset, .unset] [(.int ((((x1.toUInt64 >>> ((8 : Int32) &&& 0x3f).toInt64.toUInt64).toInt64).toInt32).toInt8.toInt32)), (.int (1 : Int32)), (.ref b5)]))
    refine own_stB X19 hx hZ e19 f19 (1 : Int32) ((((x1.toUInt64 >>> ((8 : Int32) &&& 0x3f).toInt64.toUInt64).toInt64).toInt32).toInt8.toInt32) ((((x1.toUInt64 >>> ((8 : Int32) &&& 0x3f).toInt64.toUInt64).toInt64).toInt32).toInt8.toInt32) 1 ⟨by decide, by decide⟩ rfl (Nat.le_of_ble_eq_true rfl) c13 [(.int ((x1.toInt32).toInt8.toInt32)), (.int ((((x1.toUInt64 >>> ((8 : Int32) &&& 0x3f).toInt64.toUInt64).toInt64).toInt32).toInt8.toInt32)), (.int (0 : Int32)), (.int (0 : Int32)), (.int (0 : Int32)), (.int (0 : Int32)), (.int (0 : Int32)), (.int (0 : Int32)), (.int (0 : Int32)), (.int (0 : Int32)), (.int (0 : Int32)), (.int (0 : Int32)), (.int (0 : Int32)), (.int (0 : Int32)), (.int (0 : Int32)), (.int (0 : Int32))] rfl N19 ge7 (hb hby at_84) ?_
    intro T20 h20 L20 X20 e20 W20 N20 f20
    show own_Go p e below _ (T20.setTop (mkF m 85 #[.val (.int x0), .val (.long x1), .second, .val (.long x2), .second, .val (.int x3), .val (.int (0 : Int32)), .val (.int (x3 &&& (65535 : Int32))), .val (.ref b2), .val (.ref b5), .unset, .unset, .unset, .unset, .unset] []))
    refine own_go (fun _ hr => XS.aload X20.here hx rfl (hb hby at_85) rfl rfl (XS.iconst X20.here hx rfl (hb hby at_87) (XS.lloadN X20.here hx rfl (hb hby at_88) rfl (XS.bipush X20.here hx rfl (hb hby at_89) (XS.lushr X20.here hx rfl (hb hby at_91) rfl (XS.l2i X20.here hx rfl (hb hby at_92) rfl (XS.i2b X20.here hx rfl (hb hby at_93) rfl hr))))))) ?_
    show own_Go p e below _ (T20.setTop (mkF m 94 #[.val (.int x0), .val (.long x1), .second, .val (.long x2), .second, .val (.int x3), .val (.int (0 : Int32)), .val (.int (x3 &&& (65535 : Int32))), .val (.ref b2), .val (.ref b5), .unset, .unset, .unset, .unset, .unset] [(.int ((((x1.toUInt64 >>> ((16 : Int32) &&& 0x3f).toInt64.toUInt64).toInt64).toInt32).toInt8.toInt32)), (.int (2 : Int32)), (.ref b5)]))
    refine own_stB X20 hx hZ e20 f20 (2 : Int32) ((((x1.toUInt64 >>> ((16 : Int32) &&& 0x3f).toInt64.toUInt64).toInt64).toInt32).toInt8.toInt32) ((((x1.toUInt64 >>> ((16 : Int32) &&& 0x3f).toInt64.toUInt64).toInt64).toInt32).toInt8.toInt32) 2 ⟨by decide, by decide⟩ rfl (Nat.le_of_ble_eq_true rfl) c15 [(.int ((x1.toInt32).toInt8.toInt32)), (.int ((((x1.toUInt64 >>> ((8 : Int32) &&& 0x3f).toInt64.toUInt64).toInt64).toInt32).toInt8.toInt32)), (.int ((((x1.toUInt64 >>> ((16 : Int32) &&& 0x3f).toInt64.toUInt64).toInt64).toInt32).toInt8.toInt32)), (.int (0 : Int32)), (.int (0 : Int32)), (.int (0 : Int32)), (.int (0 : Int32)), (.int (0 : Int32)), (.int (0 : Int32)), (.int (0 : Int32)), (.int (0 : Int32)), (.int (0 : Int32)), (.int (0 : Int32)), (.int (0 : Int32)), (.int (0 : Int32)), (.int (0 : Int32))] rfl N20 ge7 (hb hby at_94) ?_
    intro T21 h21 L21 X21 e21 W21 N21 f21
    show own_Go p e below _ (T21.setTop (mkF m 95 #[.val (.int x0), .val (.long x1), .second, .val (.long x2), .second, .val (.int x3), .val (.int (0 : Int32)), .val (.int (x3 &&& (65535 : Int32))), .val (.ref b2), .val (.ref b5), .unset, .unset, .unset, .unset, .unset] []))
    refine own_go (fun _ hr => XS.aload X21.here hx rfl (hb hby at_95) rfl rfl (XS.iconst X21.here hx rfl (hb hby at_97) (XS.lloadN X21.here hx rfl (hb hby at_98) rfl (XS.bipush X21.here hx rfl (hb hby at_99) (XS.lushr X21.here hx rfl (hb hby at_101) rfl (XS.l2i X21.here hx rfl (hb hby at_102) rfl (XS.i2b X21.here hx rfl (hb hby at_103) rfl hr))))))) ?_
    show own_Go p e below _ (T21.setTop (mkF m 104 #[.val (.int x0), .val (.long x1), .second, .val (.long x2), .second, .val (.int x3), .val (.int (0 : Int32)), .val (.int (x3 &&& (65535 : Int32))), .val (.ref b2), .val (.ref b5), .unset, .unset, .unset, .unset, .unset] [(.int ((((x1.toUInt64 >>> ((24 : Int32) &&& 0x3f).toInt64.toUInt64).toInt64).toInt32).toInt8.toInt32)), (.int (3 : Int32)), (.ref b5)]))
    refine own_stB X21 hx hZ e21 f21 (3 : Int32) ((((x1.toUInt64 >>> ((24 : Int32) &&& 0x3f).toInt64.toUInt64).toInt64).toInt32).toInt8.toInt32) ((((x1.toUInt64 >>> ((24 : Int32) &&& 0x3f).toInt64.toUInt64).toInt64).toInt32).toInt8.toInt32) 3 ⟨by decide, by decide⟩ rfl (Nat.le_of_ble_eq_true rfl) c17 [(.int ((x1.toInt32).toInt8.toInt32)), (.int ((((x1.toUInt64 >>> ((8 : Int32) &&& 0x3f).toInt64.toUInt64).toInt64).toInt32).toInt8.toInt32)), (.int ((((x1.toUInt64 >>> ((16 : Int32) &&& 0x3f).toInt64.toUInt64).toInt64).toInt32).toInt8.toInt32)), (.int ((((x1.toUInt64 >>> ((24 : Int32) &&& 0x3f).toInt64.toUInt64).toInt64).toInt32).toInt8.toInt32)), (.int (0 : Int32)), (.int (0 : Int32)), (.int (0 : Int32)), (.int (0 : Int32)), (.int (0 : Int32)), (.int (0 : Int32)), (.int (0 : Int32)), (.int (0 : Int32)), (.int (0 : Int32)), (.int (0 : Int32)), (.int (0 : Int32)), (.int (0 : Int32))] rfl N21 ge7 (hb hby at_104) ?_
    intro T22 h22 L22 X22 e22 W22 N22 f22
    show own_Go p e below _ (T22.setTop (mkF m 105 #[.val (.int x0), .val (.long x1), .second, .val (.long x2), .second, .val (.int x3), .val (.int (0 : Int32)), .val (.int (x3 &&& (65535 : Int32))), .val (.ref b2), .val (.ref b5), .unset, .unset, .unset, .unset, .unset] []))
    refine own_go (fun _ hr => XS.aload X22.here hx rfl (hb hby at_105) rfl rfl (XS.iconst X22.here hx rfl (hb hby at_107) (XS.lloadN X22.here hx rfl (hb hby at_108) rfl (XS.bipush X22.here hx rfl (hb hby at_109) (XS.lushr X22.here hx rfl (hb hby at_111) rfl (XS.l2i X22.here hx rfl (hb hby at_112) rfl (XS.i2b X22.here hx rfl (hb hby at_113) rfl hr))))))) ?_
    show own_Go p e below _ (T22.setTop (mkF m 114 #[.val (.int x0), .val (.long x1), .second, .val (.long x2), .second, .val (.int x3), .val (.int (0 : Int32)), .val (.int (x3 &&& (65535 : Int32))), .val (.ref b2), .val (.ref b5), .unset, .unset, .unset, .unset, .unset] [(.int ((((x1.toUInt64 >>> ((32 : Int32) &&& 0x3f).toInt64.toUInt64).toInt64).toInt32).toInt8.toInt32)), (.int (4 : Int32)), (.ref b5)]))
    have c24 : (nar .byte ((((x1.toUInt64 >>> ((32 : Int32) &&& 0x3f).toInt64.toUInt64).toInt64).toInt32).toInt8.toInt32)) = ((((x1.toUInt64 >>> ((32 : Int32) &&& 0x3f).toInt64.toUInt64).toInt64).toInt32).toInt8.toInt32) := by
      have q0 := rng64 x1
      have q1 := c_l2i x1
      have q2 := c_i2b (x1.toInt32)
      have q3 := (show ((nar .byte ((x1.toInt32).toInt8.toInt32)).toInt - ((x1.toInt32).toInt8.toInt32).toInt) % 256 = 0 ∧ -128 ≤ (nar .byte ((x1.toInt32).toInt8.toInt32)).toInt ∧ (nar .byte ((x1.toInt32).toInt8.toInt32)).toInt < 128 from c_i2b ((x1.toInt32).toInt8.toInt32))
      have q4 := c_lushr x1 (8 : Int32) 8 (by decide) (by decide)
      have q5 := c_l2i ((x1.toUInt64 >>> ((8 : Int32) &&& 0x3f).toInt64.toUInt64).toInt64)
      have q6 := c_i2b (((x1.toUInt64 >>> ((8 : Int32) &&& 0x3f).toInt64.toUInt64).toInt64).toInt32)
      have q7 := (show ((nar .byte ((((x1.toUInt64 >>> ((8 : Int32) &&& 0x3f).toInt64.toUInt64).toInt64).toInt32).toInt8.toInt32)).toInt - ((((x1.toUInt64 >>> ((8 : Int32) &&& 0x3f).toInt64.toUInt64).toInt64).toInt32).toInt8.toInt32).toInt) % 256 = 0 ∧ -128 ≤ (nar .byte ((((x1.toUInt64 >>> ((8 : Int32) &&& 0x3f).toInt64.toUInt64).toInt64).toInt32).toInt8.toInt32)).toInt ∧ (nar .byte ((((x1.toUInt64 >>> ((8 : Int32) &&& 0x3f).toInt64.toUInt64).toInt64).toInt32).toInt8.toInt32)).toInt < 128 from c_i2b ((((x1.toUInt64 >>> ((8 : Int32) &&& 0x3f).toInt64.toUInt64).toInt64).toInt32).toInt8.toInt32))
      have q8 := c_lushr x1 (16 : Int32) 16 (by decide) (by decide)
      have q9 := c_l2i ((x1.toUInt64 >>> ((16 : Int32) &&& 0x3f).toInt64.toUInt64).toInt64)
      have q10 := c_i2b (((x1.toUInt64 >>> ((16 : Int32) &&& 0x3f).toInt64.toUInt64).toInt64).toInt32)
      have q11 := (show ((nar .byte ((((x1.toUInt64 >>> ((16 : Int32) &&& 0x3f).toInt64.toUInt64).toInt64).toInt32).toInt8.toInt32)).toInt - ((((x1.toUInt64 >>> ((16 : Int32) &&& 0x3f).toInt64.toUInt64).toInt64).toInt32).toInt8.toInt32).toInt) % 256 = 0 ∧ -128 ≤ (nar .byte ((((x1.toUInt64 >>> ((16 : Int32) &&& 0x3f).toInt64.toUInt64).toInt64).toInt32).toInt8.toInt32)).toInt ∧ (nar .byte ((((x1.toUInt64 >>> ((16 : Int32) &&& 0x3f).toInt64.toUInt64).toInt64).toInt32).toInt8.toInt32)).toInt < 128 from c_i2b ((((x1.toUInt64 >>> ((16 : Int32) &&& 0x3f).toInt64.toUInt64).toInt64).toInt32).toInt8.toInt32))
      have q12 := c_lushr x1 (24 : Int32) 24 (by decide) (by decide)
      have q13 := c_l2i ((x1.toUInt64 >>> ((24 : Int32) &&& 0x3f).toInt64.toUInt64).toInt64)
      have q14 := c_i2b (((x1.toUInt64 >>> ((24 : Int32) &&& 0x3f).toInt64.toUInt64).toInt64).toInt32)
      have q15 := (show ((nar .byte ((((x1.toUInt64 >>> ((24 : Int32) &&& 0x3f).toInt64.toUInt64).toInt64).toInt32).toInt8.toInt32)).toInt - ((((x1.toUInt64 >>> ((24 : Int32) &&& 0x3f).toInt64.toUInt64).toInt64).toInt32).toInt8.toInt32).toInt) % 256 = 0 ∧ -128 ≤ (nar .byte ((((x1.toUInt64 >>> ((24 : Int32) &&& 0x3f).toInt64.toUInt64).toInt64).toInt32).toInt8.toInt32)).toInt ∧ (nar .byte ((((x1.toUInt64 >>> ((24 : Int32) &&& 0x3f).toInt64.toUInt64).toInt64).toInt32).toInt8.toInt32)).toInt < 128 from c_i2b ((((x1.toUInt64 >>> ((24 : Int32) &&& 0x3f).toInt64.toUInt64).toInt64).toInt32).toInt8.toInt32))
      have q16 := c_lushr x1 (32 : Int32) 32 (by decide) (by decide)
      have q17 := c_l2i ((x1.toUInt64 >>> ((32 : Int32) &&& 0x3f).toInt64.toUInt64).toInt64)
      have q18 := c_i2b (((x1.toUInt64 >>> ((32 : Int32) &&& 0x3f).toInt64.toUInt64).toInt64).toInt32)
      have q19 := (show ((nar .byte ((((x1.toUInt64 >>> ((32 : Int32) &&& 0x3f).toInt64.toUInt64).toInt64).toInt32).toInt8.toInt32)).toInt - ((((x1.toUInt64 >>> ((32 : Int32) &&& 0x3f).toInt64.toUInt64).toInt64).toInt32).toInt8.toInt32).toInt) % 256 = 0 ∧ -128 ≤ (nar .byte ((((x1.toUInt64 >>> ((32 : Int32) &&& 0x3f).toInt64.toUInt64).toInt64).toInt32).toInt8.toInt32)).toInt ∧ (nar .byte ((((x1.toUInt64 >>> ((32 : Int32) &&& 0x3f).toInt64.toUInt64).toInt64).toInt32).toInt8.toInt32)).toInt < 128 from c_i2b ((((x1.toUInt64 >>> ((32 : Int32) &&& 0x3f).toInt64.toUInt64).toInt64).toInt32).toInt8.toInt32))
      have p0 := c11
      have p1 := c13
      have p2 := c15
      have p3 := c17
      simp only [true_implies, Int32.lt_iff_toInt_lt, ← Int32.toInt_inj, Int32.reduceToInt, Int64.lt_iff_toInt_lt, ← Int64.toInt_inj, Int64.reduceToInt] at q0 q1 q2 q3 q4 q5 q6 q7 q8 q9 q10 q11 q12 q13 q14 q15 q16 q17 q18 q19 p0 p1 p2 p3 ⊢
      omega
    refine own_stB X22 hx hZ e22 f22 (4 : Int32) ((((x1.toUInt64 >>> ((32 : Int32) &&& 0x3f).toInt64.toUInt64).toInt64).toInt32).toInt8.toInt32) ((((x1.toUInt64 >>> ((32 : Int32) &&& 0x3f).toInt64.toUInt64).toInt64).toInt32).toInt8.toInt32) 4 ⟨by decide, by decide⟩ rfl (Nat.le_of_ble_eq_true rfl) c24 [(.int ((x1.toInt32).toInt8.toInt32)), (.int ((((x1.toUInt64 >>> ((8 : Int32) &&& 0x3f).toInt64.toUInt64).toInt64).toInt32).toInt8.toInt32)), (.int ((((x1.toUInt64 >>> ((16 : Int32) &&& 0x3f).toInt64.toUInt64).toInt64).toInt32).toInt8.toInt32)), (.int ((((x1.toUInt64 >>> ((24 : Int32) &&& 0x3f).toInt64.toUInt64).toInt64).toInt32).toInt8.toInt32)), (.int ((((x1.toUInt64 >>> ((32 : Int32) &&& 0x3f).toInt64.toUInt64).toInt64).toInt32).toInt8.toInt32)), (.int (0 : Int32)), (.int (0 : Int32)), (.int (0 : Int32)), (.int (0 : Int32)), (.int (0 : Int32)), (.int (0 : Int32)), (.int (0 : Int32)), (.int (0 : Int32)), (.int (0 : Int32)), (.int (0 : Int32)), (.int (0 : Int32))] rfl N22 ge7 (hb hby at_114) ?_
    intro T23 h23 L23 X23 e23 W23 N23 f23
    show own_Go p e below _ (T23.setTop (mkF m 115 #[.val (.int x0), .val (.long x1), .second, .val (.long x2), .second, .val (.int x3), .val (.int (0 : Int32)), .val (.int (x3 &&& (65535 : Int32))), .val (.ref b2), .val (.ref b5), .unset, .unset, .unset, .unset, .unset] []))
    refine own_go (fun _ hr => XS.aload X23.here hx rfl (hb hby at_115) rfl rfl (XS.iconst X23.here hx rfl (hb hby at_117) (XS.lloadN X23.here hx rfl (hb hby at_118) rfl (XS.bipush X23.here hx rfl (hb hby at_119) (XS.lushr X23.here hx rfl (hb hby at_121) rfl (XS.l2i X23.here hx rfl (hb hby at_122) rfl (XS.i2b X23.here hx rfl (hb hby at_123) rfl hr))))))) ?_
    show own_Go p e below _ (T23.setTop (mkF m 124 #[.val (.int x0), .val (.long x1), .second, .val (.long x2), .second, .val (.int x3), .val (.int (0 : Int32)), .val (.int (x3 &&& (65535 : Int32))), .val (.ref b2), .val (.ref b5), .unset, .unset, .unset, .unset, .unset] [(.int ((((x1.toUInt64 >>> ((40 : Int32) &&& 0x3f).toInt64.toUInt64).toInt64).toInt32).toInt8.toInt32)), (.int (5 : Int32)), (.ref b5)]))
    have c26 : (nar .byte ((((x1.toUInt64 >>> ((40 : Int32) &&& 0x3f).toInt64.toUInt64).toInt64).toInt32).toInt8.toInt32)) = ((((x1.toUInt64 >>> ((40 : Int32) &&& 0x3f).toInt64.toUInt64).toInt64).toInt32).toInt8.toInt32) := by
      have q0 := rng64 x1
      have q1 := c_l2i x1
      have q2 := c_i2b (x1.toInt32)
      have q3 := (show ((nar .byte ((x1.toInt32).toInt8.toInt32)).toInt - ((x1.toInt32).toInt8.toInt32).toInt) % 256 = 0 ∧ -128 ≤ (nar .byte ((x1.toInt32).toInt8.toInt32)).toInt ∧ (nar .byte ((x1.toInt32).toInt8.toInt32)).toInt < 128 from c_i2b ((x1.toInt32).toInt8.toInt32))
      have q4 := c_lushr x1 (8 : Int32) 8 (by decide) (by decide)
      have q5 := c_l2i ((x1.toUInt64 >>> ((8 : Int32) &&& 0x3f).toInt64.toUInt64).toInt64)
      have q6 := c_i2b (((x1.toUInt64 >>> ((8 : Int32) &&& 0x3f).toInt64.toUInt64).toInt64).toInt32)
      have q7 := (show ((nar .byte ((((x1.toUInt64 >>> ((8 : Int32) &&& 0x3f).toInt64.toUInt64).toInt64).toInt32).toInt8.toInt32)).toInt - ((((x1.toUInt64 >>> ((8 : Int32) &&& 0x3f).toInt64.toUInt64).toInt64).toInt32).toInt8.toInt32).toInt) % 256 = 0 ∧ -128 ≤ (nar .byte ((((x1.toUInt64 >>> ((8 : Int32) &&& 0x3f).toInt64.toUInt64).toInt64).toInt32).toInt8.toInt32)).toInt ∧ (nar .byte ((((x1.toUInt64 >>> ((8 : Int32) &&& 0x3f).toInt64.toUInt64).toInt64).toInt32).toInt8.toInt32)).toInt < 128 from c_i2b ((((x1.toUInt64 >>> ((8 : Int32) &&& 0x3f).toInt64.toUInt64).toInt64).toInt32).toInt8.toInt32))
      have q8 := c_lushr x1 (16 : Int32) 16 (by decide) (by decide)
      have q9 := c_l2i ((x1.toUInt64 >>> ((16 : Int32) &&& 0x3f).toInt64.toUInt64).toInt64)
      have q10 := c_i2b (((x1.toUInt64 >>> ((16 : Int32) &&& 0x3f).toInt64.toUInt64).toInt64).toInt32)
      have q11 := (show ((nar .byte ((((x1.toUInt64 >>> ((16 : Int32) &&& 0x3f).toInt64.toUInt64).toInt64).toInt32).toInt8.toInt32)).toInt - ((((x1.toUInt64 >>> ((16 : Int32) &&& 0x3f).toInt64.toUInt64).toInt64).toInt32).toInt8.toInt32).toInt) % 256 = 0 ∧ -128 ≤ (nar .byte ((((x1.toUInt64 >>> ((16 : Int32) &&& 0x3f).toInt64.toUInt64).toInt64).toInt32).toInt8.toInt32)).toInt ∧ (nar .byte ((((x1.toUInt64 >>> ((16 : Int32) &&& 0x3f).toInt64.toUInt64).toInt64).toInt32).toInt8.toInt32)).toInt < 128 from c_i2b ((((x1.toUInt64 >>> ((16 : Int32) &&& 0x3f).toInt64.toUInt64).toInt64).toInt32).toInt8.toInt32))
      have q12 := c_lushr x1 (24 : Int32) 24 (by decide) (by decide)
      have q13 := c_l2i ((x1.toUInt64 >>> ((24 : Int32) &&& 0x3f).toInt64.toUInt64).toInt64)
      have q14 := c_i2b (((x1.toUInt64 >>> ((24 : Int32) &&& 0x3f).toInt64.toUInt64).toInt64).toInt32)
      have q15 := (show ((nar .byte ((((x1.toUInt64 >>> ((24 : Int32) &&& 0x3f).toInt64.toUInt64).toInt64).toInt32).toInt8.toInt32)).toInt - ((((x1.toUInt64 >>> ((24 : Int32) &&& 0x3f).toInt64.toUInt64).toInt64).toInt32).toInt8.toInt32).toInt) % 256 = 0 ∧ -128 ≤ (nar .byte ((((x1.toUInt64 >>> ((24 : Int32) &&& 0x3f).toInt64.toUInt64).toInt64).toInt32).toInt8.toInt32)).toInt ∧ (nar .byte ((((x1.toUInt64 >>> ((24 : Int32) &&& 0x3f).toInt64.toUInt64).toInt64).toInt32).toInt8.toInt32)).toInt < 128 from c_i2b ((((x1.toUInt64 >>> ((24 : Int32) &&& 0x3f).toInt64.toUInt64).toInt64).toInt32).toInt8.toInt32))
      have q16 := c_lushr x1 (32 : Int32) 32 (by decide) (by decide)
      have q17 := c_l2i ((x1.toUInt64 >>> ((32 : Int32) &&& 0x3f).toInt64.toUInt64).toInt64)
      have q18 := c_i2b (((x1.toUInt64 >>> ((32 : Int32) &&& 0x3f).toInt64.toUInt64).toInt64).toInt32)
      have q19 := (show ((nar .byte ((((x1.toUInt64 >>> ((32 : Int32) &&& 0x3f).toInt64.toUInt64).toInt64).toInt32).toInt8.toInt32)).toInt - ((((x1.toUInt64 >>> ((32 : Int32) &&& 0x3f).toInt64.toUInt64).toInt64).toInt32).toInt8.toInt32).toInt) % 256 = 0 ∧ -128 ≤ (nar .byte ((((x1.toUInt64 >>> ((32 : Int32) &&& 0x3f).toInt64.toUInt64).toInt64).toInt32).toInt8.toInt32)).toInt ∧ (nar .byte ((((x1.toUInt64 >>> ((32 : Int32) &&& 0x3f).toInt64.toUInt64).toInt64).toInt32).toInt8.toInt32)).toInt < 128 from c_i2b ((((x1.toUInt64 >>> ((32 : Int32) &&& 0x3f).toInt64.toUInt64).toInt64).toInt32).toInt8.toInt32))
      have q20 := c_lushr x1 (40 : Int32) 40 (by decide) (by decide)
      have q21 := c_l2i ((x1.toUInt64 >>> ((40 : Int32) &&& 0x3f).toInt64.toUInt64).toInt64)
      have q22 := c_i2b (((x1.toUInt64 >>> ((40 : Int32) &&& 0x3f).toInt64.toUInt64).toInt64).toInt32)
      have q23 := (show ((nar .byte ((((x1.toUInt64 >>> ((40 : Int32) &&& 0x3f).toInt64.toUInt64).toInt64).toInt32).toInt8.toInt32)).toInt - ((((x1.toUInt64 >>> ((40 : Int32) &&& 0x3f).toInt64.toUInt64).toInt64).toInt32).toInt8.toInt32).toInt) % 256 = 0 ∧ -128 ≤ (nar .byte ((((x1.toUInt64 >>> ((40 : Int32) &&& 0x3f).toInt64.toUInt64).toInt64).toInt32).toInt8.toInt32)).toInt ∧ (nar .byte ((((x1.toUInt64 >>> ((40 : Int32) &&& 0x3f).toInt64.toUInt64).toInt64).toInt32).toInt8.toInt32)).toInt < 128 from c_i2b ((((x1.toUInt64 >>> ((40 : Int32) &&& 0x3f).toInt64.toUInt64).toInt64).toInt32).toInt8.toInt32))
      have p0 := c11
      have p1 := c13
      have p2 := c15
      have p3 := c17
      have p4 := c24
      simp only [true_implies, Int32.lt_iff_toInt_lt, ← Int32.toInt_inj, Int32.reduceToInt, Int64.lt_iff_toInt_lt, ← Int64.toInt_inj, Int64.reduceToInt] at q0 q1 q2 q3 q4 q5 q6 q7 q8 q9 q10 q11 q12 q13 q14 q15 q16 q17 q18 q19 q20 q21 q22 q23 p0 p1 p2 p3 p4 ⊢
      omega
    refine own_stB X23 hx hZ e23 f23 (5 : Int32) ((((x1.toUInt64 >>> ((40 : Int32) &&& 0x3f).toInt64.toUInt64).toInt64).toInt32).toInt8.toInt32) ((((x1.toUInt64 >>> ((40 : Int32) &&& 0x3f).toInt64.toUInt64).toInt64).toInt32).toInt8.toInt32) 5 ⟨by decide, by decide⟩ rfl (Nat.le_of_ble_eq_true rfl) c26 [(.int ((x1.toInt32).toInt8.toInt32)), (.int ((((x1.toUInt64 >>> ((8 : Int32) &&& 0x3f).toInt64.toUInt64).toInt64).toInt32).toInt8.toInt32)), (.int ((((x1.toUInt64 >>> ((16 : Int32) &&& 0x3f).toInt64.toUInt64).toInt64).toInt32).toInt8.toInt32)), (.int ((((x1.toUInt64 >>> ((24 : Int32) &&& 0x3f).toInt64.toUInt64).toInt64).toInt32).toInt8.toInt32)), (.int ((((x1.toUInt64 >>> ((32 : Int32) &&& 0x3f).toInt64.toUInt64).toInt64).toInt32).toInt8.toInt32)), (.int ((((x1.toUInt64 >>> ((40 : Int32) &&& 0x3f).toInt64.toUInt64).toInt64).toInt32).toInt8.toInt32)), (.int (0 : Int32)), (.int (0 : Int32)), (.int (0 : Int32)), (.int (0 : Int32)), (.int (0 : Int32)), (.int (0 : Int32)), (.int (0 : Int32)), (.int (0 : Int32)), (.int (0 : Int32)), (.int (0 : Int32))] rfl N23 ge7 (hb hby at_124) ?_
    intro T25 h25 L25 X25 e25 W25 N25 f25
    show own_Go p e below _ (T25.setTop (mkF m 125 #[.val (.int x0), .val (.long x1), .second, .val (.long x2), .second, .val (.int x3), .val (.int (0 : Int32)), .val (.int (x3 &&& (65535 : Int32))), .val (.ref b2), .val (.ref b5), .unset, .unset, .unset, .unset, .unset] []))
    refine own_go (fun _ hr => XS.aload X25.here hx rfl (hb hby at_125) rfl rfl (XS.bipush X25.here hx rfl (hb hby at_127) (XS.lloadN X25.here hx rfl (hb hby at_129) rfl (XS.bipush X25.here hx rfl (hb hby at_130) (XS.lushr X25.here hx rfl (hb hby at_132) rfl (XS.l2i X25.here hx rfl (hb hby at_133) rfl (XS.i2b X25.here hx rfl (hb hby at_134) rfl hr))))))) ?_
    show own_Go p e below _ (T25.setTop (mkF m 135 #[.val (.int x0), .val (.long x1), .second, .val (.long x2), .second, .val (.int x3), .val (.int (0 : Int32)), .val (.int (x3 &&& (65535 : Int32))), .val (.ref b2), .val (.ref b5), .unset, .unset, .unset, .unset, .unset] [(.int ((((x1.toUInt64 >>> ((48 : Int32) &&& 0x3f).toInt64.toUInt64).toInt64).toInt32).toInt8.toInt32)), (.int (6 : Int32)), (.ref b5)]))
    have c28 : (nar .byte ((((x1.toUInt64 >>> ((48 : Int32) &&& 0x3f).toInt64.toUInt64).toInt64).toInt32).toInt8.toInt32)) = ((((x1.toUInt64 >>> ((48 : Int32) &&& 0x3f).toInt64.toUInt64).toInt64).toInt32).toInt8.toInt32) := by
      have q0 := rng64 x1
      have q1 := c_l2i x1
      have q2 := c_i2b (x1.toInt32)
      have q3 := (show ((nar .byte ((x1.toInt32).toInt8.toInt32)).toInt - ((x1.toInt32).toInt8.toInt32).toInt) % 256 = 0 ∧ -128 ≤ (nar .byte ((x1.toInt32).toInt8.toInt32)).toInt ∧ (nar .byte ((x1.toInt32).toInt8.toInt32)).toInt < 128 from c_i2b ((x1.toInt32).toInt8.toInt32))
      have q4 := c_lushr x1 (8 : Int32) 8 (by decide) (by decide)
      have q5 := c_l2i ((x1.toUInt64 >>> ((8 : Int32) &&& 0x3f).toInt64.toUInt64).toInt64)
      have q6 := c_i2b (((x1.toUInt64 >>> ((8 : Int32) &&& 0x3f).toInt64.toUInt64).toInt64).toInt32)
      have q7 := (show ((nar .byte ((((x1.toUInt64 >>> ((8 : Int32) &&& 0x3f).toInt64.toUInt64).toInt64).toInt32).toInt8.toInt32)).toInt - ((((x1.toUInt64 >>> ((8 : Int32) &&& 0x3f).toInt64.toUInt64).toInt64).toInt32).toInt8.toInt32).toInt) % 256 = 0 ∧ -128 ≤ (nar .byte ((((x1.toUInt64 >>> ((8 : Int32) &&& 0x3f).toInt64.toUInt64).toInt64).toInt32).toInt8.toInt32)).toInt ∧ (nar .byte ((((x1.toUInt64 >>> ((8 : Int32) &&& 0x3f).toInt64.toUInt64).toInt64).toInt32).toInt8.toInt32)).toInt < 128 from c_i2b ((((x1.toUInt64 >>> ((8 : Int32) &&& 0x3f).toInt64.toUInt64).toInt64).toInt32).toInt8.toInt32))
      have q8 := c_lushr x1 (16 : Int32) 16 (by decide) (by decide)
      have q9 := c_l2i ((x1.toUInt64 >>> ((16 : Int32) &&& 0x3f).toInt64.toUInt64).toInt64)
      have q10 := c_i2b (((x1.toUInt64 >>> ((16 : Int32) &&& 0x3f).toInt64.toUInt64).toInt64).toInt32)
      have q11 := (show ((nar .byte ((((x1.toUInt64 >>> ((16 : Int32) &&& 0x3f).toInt64.toUInt64).toInt64).toInt32).toInt8.toInt32)).toInt - ((((x1.toUInt64 >>> ((16 : Int32) &&& 0x3f).toInt64.toUInt64).toInt64).toInt32).toInt8.toInt32).toInt) % 256 = 0 ∧ -128 ≤ (nar .byte ((((x1.toUInt64 >>> ((16 : Int32) &&& 0x3f).toInt64.toUInt64).toInt64).toInt32).toInt8.toInt32)).toInt ∧ (nar .byte ((((x1.toUInt64 >>> ((16 : Int32) &&& 0x3f).toInt64.toUInt64).toInt64).toInt32).toInt8.toInt32)).toInt < 128 from c_i2b ((((x1.toUInt64 >>> ((16 : Int32) &&& 0x3f).toInt64.toUInt64).toInt64).toInt32).toInt8.toInt32))
      have q12 := c_lushr x1 (24 : Int32) 24 (by decide) (by decide)
      have q13 := c_l2i ((x1.toUInt64 >>> ((24 : Int32) &&& 0x3f).toInt64.toUInt64).toInt64)
      have q14 := c_i2b (((x1.toUInt64 >>> ((24 : Int32) &&& 0x3f).toInt64.toUInt64).toInt64).toInt32)
      have q15 := (show ((nar .byte ((((x1.toUInt64 >>> ((24 : Int32) &&& 0x3f).toInt64.toUInt64).toInt64).toInt32).toInt8.toInt32)).toInt - ((((x1.toUInt64 >>> ((24 : Int32) &&& 0x3f).toInt64.toUInt64).toInt64).toInt32).toInt8.toInt32).toInt) % 256 = 0 ∧ -128 ≤ (nar .byte ((((x1.toUInt64 >>> ((24 : Int32) &&& 0x3f).toInt64.toUInt64).toInt64).toInt32).toInt8.toInt32)).toInt ∧ (nar .byte ((((x1.toUInt64 >>> ((24 : Int32) &&& 0x3f).toInt64.toUInt64).toInt64).toInt32).toInt8.toInt32)).toInt < 128 from c_i2b ((((x1.toUInt64 >>> ((24 : Int32) &&& 0x3f).toInt64.toUInt64).toInt64).toInt32).toInt8.toInt32))
      have q16 := c_lushr x1 (32 : Int32) 32 (by decide) (by decide)
      have q17 := c_l2i ((x1.toUInt64 >>> ((32 : Int32) &&& 0x3f).toInt64.toUInt64).toInt64)
      have q18 := c_i2b (((x1.toUInt64 >>> ((32 : Int32) &&& 0x3f).toInt64.toUInt64).toInt64).toInt32)
      have q19 := (show ((nar .byte ((((x1.toUInt64 >>> ((32 : Int32) &&& 0x3f).toInt64.toUInt64).toInt64).toInt32).toInt8.toInt32)).toInt - ((((x1.toUInt64 >>> ((32 : Int32) &&& 0x3f).toInt64.toUInt64).toInt64).toInt32).toInt8.toInt32).toInt) % 256 = 0 ∧ -128 ≤ (nar .byte ((((x1.toUInt64 >>> ((32 : Int32) &&& 0x3f).toInt64.toUInt64).toInt64).toInt32).toInt8.toInt32)).toInt ∧ (nar .byte ((((x1.toUInt64 >>> ((32 : Int32) &&& 0x3f).toInt64.toUInt64).toInt64).toInt32).toInt8.toInt32)).toInt < 128 from c_i2b ((((x1.toUInt64 >>> ((32 : Int32) &&& 0x3f).toInt64.toUInt64).toInt64).toInt32).toInt8.toInt32))
      have q20 := c_lushr x1 (40 : Int32) 40 (by decide) (by decide)
      have q21 := c_l2i ((x1.toUInt64 >>> ((40 : Int32) &&& 0x3f).toInt64.toUInt64).toInt64)
      have q22 := c_i2b (((x1.toUInt64 >>> ((40 : Int32) &&& 0x3f).toInt64.toUInt64).toInt64).toInt32)
      have q23 := (show ((nar .byte ((((x1.toUInt64 >>> ((40 : Int32) &&& 0x3f).toInt64.toUInt64).toInt64).toInt32).toInt8.toInt32)).toInt - ((((x1.toUInt64 >>> ((40 : Int32) &&& 0x3f).toInt64.toUInt64).toInt64).toInt32).toInt8.toInt32).toInt) % 256 = 0 ∧ -128 ≤ (nar .byte ((((x1.toUInt64 >>> ((40 : Int32) &&& 0x3f).toInt64.toUInt64).toInt64).toInt32).toInt8.toInt32)).toInt ∧ (nar .byte ((((x1.toUInt64 >>> ((40 : Int32) &&& 0x3f).toInt64.toUInt64).toInt64).toInt32).toInt8.toInt32)).toInt < 128 from c_i2b ((((x1.toUInt64 >>> ((40 : Int32) &&& 0x3f).toInt64.toUInt64).toInt64).toInt32).toInt8.toInt32))
      have q24 := c_lushr x1 (48 : Int32) 48 (by decide) (by decide)
      have q25 := c_l2i ((x1.toUInt64 >>> ((48 : Int32) &&& 0x3f).toInt64.toUInt64).toInt64)
      have q26 := c_i2b (((x1.toUInt64 >>> ((48 : Int32) &&& 0x3f).toInt64.toUInt64).toInt64).toInt32)
      have q27 := (show ((nar .byte ((((x1.toUInt64 >>> ((48 : Int32) &&& 0x3f).toInt64.toUInt64).toInt64).toInt32).toInt8.toInt32)).toInt - ((((x1.toUInt64 >>> ((48 : Int32) &&& 0x3f).toInt64.toUInt64).toInt64).toInt32).toInt8.toInt32).toInt) % 256 = 0 ∧ -128 ≤ (nar .byte ((((x1.toUInt64 >>> ((48 : Int32) &&& 0x3f).toInt64.toUInt64).toInt64).toInt32).toInt8.toInt32)).toInt ∧ (nar .byte ((((x1.toUInt64 >>> ((48 : Int32) &&& 0x3f).toInt64.toUInt64).toInt64).toInt32).toInt8.toInt32)).toInt < 128 from c_i2b ((((x1.toUInt64 >>> ((48 : Int32) &&& 0x3f).toInt64.toUInt64).toInt64).toInt32).toInt8.toInt32))
      have p0 := c11
      have p1 := c13
      have p2 := c15
      have p3 := c17
      have p4 := c24
      have p5 := c26
      simp only [true_implies, Int32.lt_iff_toInt_lt, ← Int32.toInt_inj, Int32.reduceToInt, Int64.lt_iff_toInt_lt, ← Int64.toInt_inj, Int64.reduceToInt] at q0 q1 q2 q3 q4 q5 q6 q7 q8 q9 q10 q11 q12 q13 q14 q15 q16 q17 q18 q19 q20 q21 q22 q23 q24 q25 q26 q27 p0 p1 p2 p3 p4 p5 ⊢
      omega
    refine own_stB X25 hx hZ e25 f25 (6 : Int32) ((((x1.toUInt64 >>> ((48 : Int32) &&& 0x3f).toInt64.toUInt64).toInt64).toInt32).toInt8.toInt32) ((((x1.toUInt64 >>> ((48 : Int32) &&& 0x3f).toInt64.toUInt64).toInt64).toInt32).toInt8.toInt32) 6 ⟨by decide, by decide⟩ rfl (Nat.le_of_ble_eq_true rfl) c28 [(.int ((x1.toInt32).toInt8.toInt32)), (.int ((((x1.toUInt64 >>> ((8 : Int32) &&& 0x3f).toInt64.toUInt64).toInt64).toInt32).toInt8.toInt32)), (.int ((((x1.toUInt64 >>> ((16 : Int32) &&& 0x3f).toInt64.toUInt64).toInt64).toInt32).toInt8.toInt32)), (.int ((((x1.toUInt64 >>> ((24 : Int32) &&& 0x3f).toInt64.toUInt64).toInt64).toInt32).toInt8.toInt32)), (.int ((((x1.toUInt64 >>> ((32 : Int32) &&& 0x3f).toInt64.toUInt64).toInt64).toInt32).toInt8.toInt32)), (.int ((((x1.toUInt64 >>> ((40 : Int32) &&& 0x3f).toInt64.toUInt64).toInt64).toInt32).toInt8.toInt32)), (.int ((((x1.toUInt64 >>> ((48 : Int32) &&& 0x3f).toInt64.toUInt64).toInt64).toInt32).toInt8.toInt32)), (.int (0 : Int32)), (.int (0 : Int32)), (.int (0 : Int32)), (.int (0 : Int32)), (.int (0 : Int32)), (.int (0 : Int32)), (.int (0 : Int32)), (.int (0 : Int32)), (.int (0 : Int32))] rfl N25 ge7 (hb hby at_135) ?_
    intro T27 h27 L27 X27 e27 W27 N27 f27
    show own_Go p e below _ (T27.setTop (mkF m 136 #[.val (.int x0), .val (.long x1), .second, .val (.long x2), .second, .val (.int x3), .val (.int (0 : Int32)), .val (.int (x3 &&& (65535 : Int32))), .val (.ref b2), .val (.ref b5), .unset, .unset, .unset, .unset, .unset] []))
    refine own_go (fun _ hr => XS.aload X27.here hx rfl (hb hby at_136) rfl rfl (XS.bipush X27.here hx rfl (hb hby at_138) (XS.lloadN X27.here hx rfl (hb hby at_140) rfl (XS.bipush X27.here hx rfl (hb hby at_141) (XS.lushr X27.here hx rfl (hb hby at_143) rfl (XS.l2i X27.here hx rfl (hb hby at_144) rfl (XS.i2b X27.here hx rfl (hb hby at_145) rfl hr))))))) ?_
    show own_Go p e below _ (T27.setTop (mkF m 146 #[.val (.int x0), .val (.long x1), .second, .val (.long x2), .second, .val (.int x3), .val (.int (0 : Int32)), .val (.int (x3 &&& (65535 : Int32))), .val (.ref b2), .val (.ref b5), .unset, .unset, .unset, .unset, .unset] [(.int ((((x1.toUInt64 >>> ((56 : Int32) &&& 0x3f).toInt64.toUInt64).toInt64).toInt32).toInt8.toInt32)), (.int (7 : Int32)), (.ref b5)]))
    have c30 : (nar .byte ((((x1.toUInt64 >>> ((56 : Int32) &&& 0x3f).toInt64.toUInt64).toInt64).toInt32).toInt8.toInt32)) = ((((x1.toUInt64 >>> ((56 : Int32) &&& 0x3f).toInt64.toUInt64).toInt64).toInt32).toInt8.toInt32) := by
      have q0 := rng64 x1
      have q1 := c_l2i x1
      have q2 := c_i2b (x1.toInt32)
      have q3 := (show ((nar .byte ((x1.toInt32).toInt8.toInt32)).toInt - ((x1.toInt32).toInt8.toInt32).toInt) % 256 = 0 ∧ -128 ≤ (nar .byte ((x1.toInt32).toInt8.toInt32)).toInt ∧ (nar .byte ((x1.toInt32).toInt8.toInt32)).toInt < 128 from c_i2b ((x1.toInt32).toInt8.toInt32))
      have q4 := c_lushr x1 (8 : Int32) 8 (by decide) (by decide)
      have q5 := c_l2i ((x1.toUInt64 >>> ((8 : Int32) &&& 0x3f).toInt64.toUInt64).toInt64)
      have q6 := c_i2b (((x1.toUInt64 >>> ((8 : Int32) &&& 0x3f).toInt64.toUInt64).toInt64).toInt32)
      have q7 := (show ((nar .byte ((((x1.toUInt64 >>> ((8 : Int32) &&& 0x3f).toInt64.toUInt64).toInt64).toInt32).toInt8.toInt32)).toInt - ((((x1.toUInt64 >>> ((8 : Int32) &&& 0x3f).toInt64.toUInt64).toInt64).toInt32).toInt8.toInt32).toInt) % 256 = 0 ∧ -128 ≤ (nar .byte ((((x1.toUInt64 >>> ((8 : Int32) &&& 0x3f).toInt64.toUInt64).toInt64).toInt32).toInt8.toInt32)).toInt ∧ (nar .byte ((((x1.toUInt64 >>> ((8 : Int32) &&& 0x3f).toInt64.toUInt64).toInt64).toInt32).toInt8.toInt32)).toInt < 128 from c_i2b ((((x1.toUInt64 >>> ((8 : Int32) &&& 0x3f).toInt64.toUInt64).toInt64).toInt32).toInt8.toInt32))
      have q8 := c_lushr x1 (16 : Int32) 16 (by decide) (by decide)
      have q9 := c_l2i ((x1.toUInt64 >>> ((16 : Int32) &&& 0x3f).toInt64.toUInt64).toInt64)
      have q10 := c_i2b (((x1.toUInt64 >>> ((16 : Int32) &&& 0x3f).toInt64.toUInt64).toInt64).toInt32)
      have q11 := (show ((nar .byte ((((x1.toUInt64 >>> ((16 : Int32) &&& 0x3f).toInt64.toUInt64).toInt64).toInt32).toInt8.toInt32)).toInt - ((((x1.toUInt64 >>> ((16 : Int32) &&& 0x3f).toInt64.toUInt64).toInt64).toInt32).toInt8.toInt32).toInt) % 256 = 0 ∧ -128 ≤ (nar .byte ((((x1.toUInt64 >>> ((16 : Int32) &&& 0x3f).toInt64.toUInt64).toInt64).toInt32).toInt8.toInt32)).toInt ∧ (nar .byte ((((x1.toUInt64 >>> ((16 : Int32) &&& 0x3f).toInt64.toUInt64).toInt64).toInt32).toInt8.toInt32)).toInt < 128 from c_i2b ((((x1.toUInt64 >>> ((16 : Int32) &&& 0x3f).toInt64.toUInt64).toInt64).toInt32).toInt8.toInt32))
      have q12 := c_lushr x1 (24 : Int32) 24 (by decide) (by decide)
      have q13 := c_l2i ((x1.toUInt64 >>> ((24 : Int32) &&& 0x3f).toInt64.toUInt64).toInt64)
      have q14 := c_i2b (((x1.toUInt64 >>> ((24 : Int32) &&& 0x3f).toInt64.toUInt64).toInt64).toInt32)
      have q15 := (show ((nar .byte ((((x1.toUInt64 >>> ((24 : Int32) &&& 0x3f).toInt64.toUInt64).toInt64).toInt32).toInt8.toInt32)).toInt - ((((x1.toUInt64 >>> ((24 : Int32) &&& 0x3f).toInt64.toUInt64).toInt64).toInt32).toInt8.toInt32).toInt) % 256 = 0 ∧ -128 ≤ (nar .byte ((((x1.toUInt64 >>> ((24 : Int32) &&& 0x3f).toInt64.toUInt64).toInt64).toInt32).toInt8.toInt32)).toInt ∧ (nar .byte ((((x1.toUInt64 >>> ((24 : Int32) &&& 0x3f).toInt64.toUInt64).toInt64).toInt32).toInt8.toInt32)).toInt < 128 from c_i2b ((((x1.toUInt64 >>> ((24 : Int32) &&& 0x3f).toInt64.toUInt64).toInt64).toInt32).toInt8.toInt32))
      have q16 := c_lushr x1 (32 : Int32) 32 (by decide) (by decide)
      have q17 := c_l2i ((x1.toUInt64 >>> ((32 : Int32) &&& 0x3f).toInt64.toUInt64).toInt64)
      have q18 := c_i2b (((x1.toUInt64 >>> ((32 : Int32) &&& 0x3f).toInt64.toUInt64).toInt64).toInt32)
      have q19 := (show ((nar .byte ((((x1.toUInt64 >>> ((32 : Int32) &&& 0x3f).toInt64.toUInt64).toInt64).toInt32).toInt8.toInt32)).toInt - ((((x1.toUInt64 >>> ((32 : Int32) &&& 0x3f).toInt64.toUInt64).toInt64).toInt32).toInt8.toInt32).toInt) % 256 = 0 ∧ -128 ≤ (nar .byte ((((x1.toUInt64 >>> ((32 : Int32) &&& 0x3f).toInt64.toUInt64).toInt64).toInt32).toInt8.toInt32)).toInt ∧ (nar .byte ((((x1.toUInt64 >>> ((32 : Int32) &&& 0x3f).toInt64.toUInt64).toInt64).toInt32).toInt8.toInt32)).toInt < 128 from c_i2b ((((x1.toUInt64 >>> ((32 : Int32) &&& 0x3f).toInt64.toUInt64).toInt64).toInt32).toInt8.toInt32))
      have q20 := c_lushr x1 (40 : Int32) 40 (by decide) (by decide)
      have q21 := c_l2i ((x1.toUInt64 >>> ((40 : Int32) &&& 0x3f).toInt64.toUInt64).toInt64)
      have q22 := c_i2b (((x1.toUInt64 >>> ((40 : Int32) &&& 0x3f).toInt64.toUInt64).toInt64).toInt32)
      have q23 := (show ((nar .byte ((((x1.toUInt64 >>> ((40 : Int32) &&& 0x3f).toInt64.toUInt64).toInt64).toInt32).toInt8.toInt32)).toInt - ((((x1.toUInt64 >>> ((40 : Int32) &&& 0x3f).toInt64.toUInt64).toInt64).toInt32).toInt8.toInt32).toInt) % 256 = 0 ∧ -128 ≤ (nar .byte ((((x1.toUInt64 >>> ((40 : Int32) &&& 0x3f).toInt64.toUInt64).toInt64).toInt32).toInt8.toInt32)).toInt ∧ (nar .byte ((((x1.toUInt64 >>> ((40 : Int32) &&& 0x3f).toInt64.toUInt64).toInt64).toInt32).toInt8.toInt32)).toInt < 128 from c_i2b ((((x1.toUInt64 >>> ((40 : Int32) &&& 0x3f).toInt64.toUInt64).toInt64).toInt32).toInt8.toInt32))
      have q24 := c_lushr x1 (48 : Int32) 48 (by decide) (by decide)
      have q25 := c_l2i ((x1.toUInt64 >>> ((48 : Int32) &&& 0x3f).toInt64.toUInt64).toInt64)
      have q26 := c_i2b (((x1.toUInt64 >>> ((48 : Int32) &&& 0x3f).toInt64.toUInt64).toInt64).toInt32)
      have q27 := (show ((nar .byte ((((x1.toUInt64 >>> ((48 : Int32) &&& 0x3f).toInt64.toUInt64).toInt64).toInt32).toInt8.toInt32)).toInt - ((((x1.toUInt64 >>> ((48 : Int32) &&& 0x3f).toInt64.toUInt64).toInt64).toInt32).toInt8.toInt32).toInt) % 256 = 0 ∧ -128 ≤ (nar .byte ((((x1.toUInt64 >>> ((48 : Int32) &&& 0x3f).toInt64.toUInt64).toInt64).toInt32).toInt8.toInt32)).toInt ∧ (nar .byte ((((x1.toUInt64 >>> ((48 : Int32) &&& 0x3f).toInt64.toUInt64).toInt64).toInt32).toInt8.toInt32)).toInt < 128 from c_i2b ((((x1.toUInt64 >>> ((48 : Int32) &&& 0x3f).toInt64.toUInt64).toInt64).toInt32).toInt8.toInt32))
      have q28 := c_lushr x1 (56 : Int32) 56 (by decide) (by decide)
      have q29 := c_l2i ((x1.toUInt64 >>> ((56 : Int32) &&& 0x3f).toInt64.toUInt64).toInt64)
      have q30 := c_i2b (((x1.toUInt64 >>> ((56 : Int32) &&& 0x3f).toInt64.toUInt64).toInt64).toInt32)
      have q31 := (show ((nar .byte ((((x1.toUInt64 >>> ((56 : Int32) &&& 0x3f).toInt64.toUInt64).toInt64).toInt32).toInt8.toInt32)).toInt - ((((x1.toUInt64 >>> ((56 : Int32) &&& 0x3f).toInt64.toUInt64).toInt64).toInt32).toInt8.toInt32).toInt) % 256 = 0 ∧ -128 ≤ (nar .byte ((((x1.toUInt64 >>> ((56 : Int32) &&& 0x3f).toInt64.toUInt64).toInt64).toInt32).toInt8.toInt32)).toInt ∧ (nar .byte ((((x1.toUInt64 >>> ((56 : Int32) &&& 0x3f).toInt64.toUInt64).toInt64).toInt32).toInt8.toInt32)).toInt < 128 from c_i2b ((((x1.toUInt64 >>> ((56 : Int32) &&& 0x3f).toInt64.toUInt64).toInt64).toInt32).toInt8.toInt32))
      have p0 := c11
      have p1 := c13
      have p2 := c15
      have p3 := c17
      have p4 := c24
      have p5 := c26
      have p6 := c28
      simp only [true_implies, Int32.lt_iff_toInt_lt, ← Int32.toInt_inj, Int32.reduceToInt, Int64.lt_iff_toInt_lt, ← Int64.toInt_inj, Int64.reduceToInt] at q0 q1 q2 q3 q4 q5 q6 q7 q8 q9 q10 q11 q12 q13 q14 q15 q16 q17 q18 q19 q20 q21 q22 q23 q24 q25 q26 q27 q28 q29 q30 q31 p0 p1 p2 p3 p4 p5 p6 ⊢
      omega
    refine own_stB X27 hx hZ e27 f27 (7 : Int32) ((((x1.toUInt64 >>> ((56 : Int32) &&& 0x3f).toInt64.toUInt64).toInt64).toInt32).toInt8.toInt32) ((((x1.toUInt64 >>> ((56 : Int32) &&& 0x3f).toInt64.toUInt64).toInt64).toInt32).toInt8.toInt32) 7 ⟨by decide, by decide⟩ rfl (Nat.le_of_ble_eq_true rfl) c30 [(.int ((x1.toInt32).toInt8.toInt32)), (.int ((((x1.toUInt64 >>> ((8 : Int32) &&& 0x3f).toInt64.toUInt64).toInt64).toInt32).toInt8.toInt32)), (.int ((((x1.toUInt64 >>> ((16 : Int32) &&& 0x3f).toInt64.toUInt64).toInt64).toInt32).toInt8.toInt32)), (.int ((((x1.toUInt64 >>> ((24 : Int32) &&& 0x3f).toInt64.toUInt64).toInt64).toInt32).toInt8.toInt32)), (.int ((((x1.toUInt64 >>> ((32 : Int32) &&& 0x3f).toInt64.toUInt64).toInt64).toInt32).toInt8.toInt32)), (.int ((((x1.toUInt64 >>> ((40 : Int32) &&& 0x3f).toInt64.toUInt64).toInt64).toInt32).toInt8.toInt32)), (.int ((((x1.toUInt64 >>> ((48 : Int32) &&& 0x3f).toInt64.toUInt64).toInt64).toInt32).toInt8.toInt32)), (.int ((((x1.toUInt64 >>> ((56 : Int32) &&& 0x3f).toInt64.toUInt64).toInt64).toInt32).toInt8.toInt32)), (.int (0 : Int32)), (.int (0 : Int32)), (.int (0 : Int32)), (.int (0 : Int32)), (.int (0 : Int32)), (.int (0 : Int32)), (.int (0 : Int32)), (.int (0 : Int32))] rfl N27 ge7 (hb hby at_146) ?_
    intro T29 h29 L29 X29 e29 W29 N29 f29
    show own_Go p e below _ (T29.setTop (mkF m 147 #[.val (.int x0), .val (.long x1), .second, .val (.long x2), .second, .val (.int x3), .val (.int (0 : Int32)), .val (.int (x3 &&& (65535 : Int32))), .val (.ref b2), .val (.ref b5), .unset, .unset, .unset, .unset, .unset] []))
    refine own_go (fun _ hr => XS.aload X29.here hx rfl (hb hby at_147) rfl rfl (XS.bipush X29.here hx rfl (hb hby at_149) (XS.lloadN X29.here hx rfl (hb hby at_151) rfl (XS.l2i X29.here hx rfl (hb hby at_152) rfl (XS.i2b X29.here hx rfl (hb hby at_153) rfl hr))))) ?_
    show own_Go p e below _ (T29.setTop (mkF m 154 #[.val (.int x0), .val (.long x1), .second, .val (.long x2), .second, .val (.int x3), .val (.int (0 : Int32)), .val (.int (x3 &&& (65535 : Int32))), .val (.ref b2), .val (.ref b5), .unset, .unset, .unset, .unset, .unset] [(.int ((x2.toInt32).toInt8.toInt32)), (.int (8 : Int32)), (.ref b5)]))
    have c32 : (nar .byte ((x2.toInt32).toInt8.toInt32)) = ((x2.toInt32).toInt8.toInt32) := by
      have q0 := rng64 x2
      have q1 := c_l2i x2
      have q2 := c_i2b (x2.toInt32)
      have q3 := (show ((nar .byte ((x2.toInt32).toInt8.toInt32)).toInt - ((x2.toInt32).toInt8.toInt32).toInt) % 256 = 0 ∧ -128 ≤ (nar .byte ((x2.toInt32).toInt8.toInt32)).toInt ∧ (nar .byte ((x2.toInt32).toInt8.toInt32)).toInt < 128 from c_i2b ((x2.toInt32).toInt8.toInt32))
      simp only [true_implies, Int32.lt_iff_toInt_lt, ← Int32.toInt_inj, Int32.reduceToInt, Int64.lt_iff_toInt_lt, ← Int64.toInt_inj, Int64.reduceToInt] at q0 q1 q2 q3 ⊢
      omega
    refine own_stB X29 hx hZ e29 f29 (8 : Int32) ((x2.toInt32).toInt8.toInt32) ((x2.toInt32).toInt8.toInt32) 8 ⟨by decide, by decide⟩ rfl (Nat.le_of_ble_eq_true rfl) c32 [(.int ((x1.toInt32).toInt8.toInt32)), (.int ((((x1.toUInt64 >>> ((8 : Int32) &&& 0x3f).toInt64.toUInt64).toInt64).toInt32).toInt8.toInt32)), (.int ((((x1.toUInt64 >>> ((16 : Int32) &&& 0x3f).toInt64.toUInt64).toInt64).toInt32).toInt8.toInt32)), (.int ((((x1.toUInt64 >>> ((24 : Int32) &&& 0x3f).toInt64.toUInt64).toInt64).toInt32).toInt8.toInt32)), (.int ((((x1.toUInt64 >>> ((32 : Int32) &&& 0x3f).toInt64.toUInt64).toInt64).toInt32).toInt8.toInt32)), (.int ((((x1.toUInt64 >>> ((40 : Int32) &&& 0x3f).toInt64.toUInt64).toInt64).toInt32).toInt8.toInt32)), (.int ((((x1.toUInt64 >>> ((48 : Int32) &&& 0x3f).toInt64.toUInt64).toInt64).toInt32).toInt8.toInt32)), (.int ((((x1.toUInt64 >>> ((56 : Int32) &&& 0x3f).toInt64.toUInt64).toInt64).toInt32).toInt8.toInt32)), (.int ((x2.toInt32).toInt8.toInt32)), (.int (0 : Int32)), (.int (0 : Int32)), (.int (0 : Int32)), (.int (0 : Int32)), (.int (0 : Int32)), (.int (0 : Int32)), (.int (0 : Int32))] rfl N29 ge7 (hb hby at_154) ?_
    intro T31 h31 L31 X31 e31 W31 N31 f31
    show own_Go p e below _ (T31.setTop (mkF m 155 #[.val (.int x0), .val (.long x1), .second, .val (.long x2), .second, .val (.int x3), .val (.int (0 : Int32)), .val (.int (x3 &&& (65535 : Int32))), .val (.ref b2), .val (.ref b5), .unset, .unset, .unset, .unset, .unset] []))
    refine own_go (fun _ hr => XS.aload X31.here hx rfl (hb hby at_155) rfl rfl (XS.bipush X31.here hx rfl (hb hby at_157) (XS.lloadN X31.here hx rfl (hb hby at_159) rfl (XS.bipush X31.here hx rfl (hb hby at_160) (XS.lushr X31.here hx rfl (hb hby at_162) rfl (XS.l2i X31.here hx rfl (hb hby at_163) rfl (XS.i2b X31.here hx rfl (hb hby at_164) rfl hr))))))) ?_
    show own_Go p e below _ (T31.setTop (mkF m 165 #[.val (.int x0), .val (.long x1), .second, .val (.long x2), .second, .val (.int x3), .val (.int (0 : Int32)), .val (.int (x3 &&& (65535 : Int32))), .val (.ref b2), .val (.ref b5), .unset, .unset, .unset, .unset, .unset] [(.int ((((x2.toUInt64 >>> ((8 : Int32) &&& 0x3f).toInt64.toUInt64).toInt64).toInt32).toInt8.toInt32)), (.int (9 : Int32)), (.ref b5)]))
    have c34 : (nar .byte ((((x2.toUInt64 >>> ((8 : Int32) &&& 0x3f).toInt64.toUInt64).toInt64).toInt32).toInt8.toInt32)) = ((((x2.toUInt64 >>> ((8 : Int32) &&& 0x3f).toInt64.toUInt64).toInt64).toInt32).toInt8.toInt32) := by
      have q0 := rng64 x2
      have q1 := c_l2i x2
      have q2 := c_i2b (x2.toInt32)
      have q3 := (show ((nar .byte ((x2.toInt32).toInt8.toInt32)).toInt - ((x2.toInt32).toInt8.toInt32).toInt) % 256 = 0 ∧ -128 ≤ (nar .byte ((x2.toInt32).toInt8.toInt32)).toInt ∧ (nar .byte ((x2.toInt32).toInt8.toInt32)).toInt < 128 from c_i2b ((x2.toInt32).toInt8.toInt32))
      have q4 := c_lushr x2 (8 : Int32) 8 (by decide) (by decide)
      have q5 := c_l2i ((x2.toUInt64 >>> ((8 : Int32) &&& 0x3f).toInt64.toUInt64).toInt64)
      have q6 := c_i2b (((x2.toUInt64 >>> ((8 : Int32) &&& 0x3f).toInt64.toUInt64).toInt64).toInt32)
      have q7 := (show ((nar .byte ((((x2.toUInt64 >>> ((8 : Int32) &&& 0x3f).toInt64.toUInt64).toInt64).toInt32).toInt8.toInt32)).toInt - ((((x2.toUInt64 >>> ((8 : Int32) &&& 0x3f).toInt64.toUInt64).toInt64).toInt32).toInt8.toInt32).toInt) % 256 = 0 ∧ -128 ≤ (nar .byte ((((x2.toUInt64 >>> ((8 : Int32) &&& 0x3f).toInt64.toUInt64).toInt64).toInt32).toInt8.toInt32)).toInt ∧ (nar .byte ((((x2.toUInt64 >>> ((8 : Int32) &&& 0x3f).toInt64.toUInt64).toInt64).toInt32).toInt8.toInt32)).toInt < 128 from c_i2b ((((x2.toUInt64 >>> ((8 : Int32) &&& 0x3f).toInt64.toUInt64).toInt64).toInt32).toInt8.toInt32))
      have p0 := c32
      simp only [true_implies, Int32.lt_iff_toInt_lt, ← Int32.toInt_inj, Int32.reduceToInt, Int64.lt_iff_toInt_lt, ← Int64.toInt_inj, Int64.reduceToInt] at q0 q1 q2 q3 q4 q5 q6 q7 p0 ⊢
      omega
    refine own_stB X31 hx hZ e31 f31 (9 : Int32) ((((x2.toUInt64 >>> ((8 : Int32) &&& 0x3f).toInt64.toUInt64).toInt64).toInt32).toInt8.toInt32) ((((x2.toUInt64 >>> ((8 : Int32) &&& 0x3f).toInt64.toUInt64).toInt64).toInt32).toInt8.toInt32) 9 ⟨by decide, by decide⟩ rfl (Nat.le_of_ble_eq_true rfl) c34 [(.int ((x1.toInt32).toInt8.toInt32)), (.int ((((x1.toUInt64 >>> ((8 : Int32) &&& 0x3f).toInt64.toUInt64).toInt64).toInt32).toInt8.toInt32)), (.int ((((x1.toUInt64 >>> ((16 : Int32) &&& 0x3f).toInt64.toUInt64).toInt64).toInt32).toInt8.toInt32)), (.int ((((x1.toUInt64 >>> ((24 : Int32) &&& 0x3f).toInt64.toUInt64).toInt64).toInt32).toInt8.toInt32)), (.int ((((x1.toUInt64 >>> ((32 : Int32) &&& 0x3f).toInt64.toUInt64).toInt64).toInt32).toInt8.toInt32)), (.int ((((x1.toUInt64 >>> ((40 : Int32) &&& 0x3f).toInt64.toUInt64).toInt64).toInt32).toInt8.toInt32)), (.int ((((x1.toUInt64 >>> ((48 : Int32) &&& 0x3f).toInt64.toUInt64).toInt64).toInt32).toInt8.toInt32)), (.int ((((x1.toUInt64 >>> ((56 : Int32) &&& 0x3f).toInt64.toUInt64).toInt64).toInt32).toInt8.toInt32)), (.int ((x2.toInt32).toInt8.toInt32)), (.int ((((x2.toUInt64 >>> ((8 : Int32) &&& 0x3f).toInt64.toUInt64).toInt64).toInt32).toInt8.toInt32)), (.int (0 : Int32)), (.int (0 : Int32)), (.int (0 : Int32)), (.int (0 : Int32)), (.int (0 : Int32)), (.int (0 : Int32))] rfl N31 ge7 (hb hby at_165) ?_
    intro T33 h33 L33 X33 e33 W33 N33 f33
    show own_Go p e below _ (T33.setTop (mkF m 166 #[.val (.int x0), .val (.long x1), .second, .val (.long x2), .second, .val (.int x3), .val (.int (0 : Int32)), .val (.int (x3 &&& (65535 : Int32))), .val (.ref b2), .val (.ref b5), .unset, .unset, .unset, .unset, .unset] []))
    refine own_go (fun _ hr => XS.aload X33.here hx rfl (hb hby at_166) rfl rfl (XS.bipush X33.here hx rfl (hb hby at_168) (XS.lloadN X33.here hx rfl (hb hby at_170) rfl (XS.bipush X33.here hx rfl (hb hby at_171) (XS.lushr X33.here hx rfl (hb hby at_173) rfl (XS.l2i X33.here hx rfl (hb hby at_174) rfl (XS.i2b X33.here hx rfl (hb hby at_175) rfl hr))))))) ?_
    show own_Go p e below _ (T33.setTop (mkF m 176 #[.val (.int x0), .val (.long x1), .second, .val (.long x2), .second, .val (.int x3), .val (.int (0 : Int32)), .val (.int (x3 &&& (65535 : Int32))), .val (.ref b2), .val (.ref b5), .unset, .unset, .unset, .unset, .unset] [(.int ((((x2.toUInt64 >>> ((16 : Int32) &&& 0x3f).toInt64.toUInt64).toInt64).toInt32).toInt8.toInt32)), (.int (10 : Int32)), (.ref b5)]))
    have c36 : (nar .byte ((((x2.toUInt64 >>> ((16 : Int32) &&& 0x3f).toInt64.toUInt64).toInt64).toInt32).toInt8.toInt32)) = ((((x2.toUInt64 >>> ((16 : Int32) &&& 0x3f).toInt64.toUInt64).toInt64).toInt32).toInt8.toInt32) := by
      have q0 := rng64 x2
      have q1 := c_l2i x2
      have q2 := c_i2b (x2.toInt32)
      have q3 := (show ((nar .byte ((x2.toInt32).toInt8.toInt32)).toInt - ((x2.toInt32).toInt8.toInt32).toInt) % 256 = 0 ∧ -128 ≤ (nar .byte ((x2.toInt32).toInt8.toInt32)).toInt ∧ (nar .byte ((x2.toInt32).toInt8.toInt32)).toInt < 128 from c_i2b ((x2.toInt32).toInt8.toInt32))
      have q4 := c_lushr x2 (8 : Int32) 8 (by decide) (by decide)
      have q5 := c_l2i ((x2.toUInt64 >>> ((8 : Int32) &&& 0x3f).toInt64.toUInt64).toInt64)
      have q6 := c_i2b (((x2.toUInt64 >>> ((8 : Int32) &&& 0x3f).toInt64.toUInt64).toInt64).toInt32)
      have q7 := (show ((nar .byte ((((x2.toUInt64 >>> ((8 : Int32) &&& 0x3f).toInt64.toUInt64).toInt64).toInt32).toInt8.toInt32)).toInt - ((((x2.toUInt64 >>> ((8 : Int32) &&& 0x3f).toInt64.toUInt64).toInt64).toInt32).toInt8.toInt32).toInt) % 256 = 0 ∧ -128 ≤ (nar .byte ((((x2.toUInt64 >>> ((8 : Int32) &&& 0x3f).toInt64.toUInt64).toInt64).toInt32).toInt8.toInt32)).toInt ∧ (nar .byte ((((x2.toUInt64 >>> ((8 : Int32) &&& 0x3f).toInt64.toUInt64).toInt64).toInt32).toInt8.toInt32)).toInt < 128 from c_i2b ((((x2.toUInt64 >>> ((8 : Int32) &&& 0x3f).toInt64.toUInt64).toInt64).toInt32).toInt8.toInt32))
      have q8 := c_lushr x2 (16 : Int32) 16 (by decide) (by decide)
      have q9 := c_l2i ((x2.toUInt64 >>> ((16 : Int32) &&& 0x3f).toInt64.toUInt64).toInt64)
      have q10 := c_i2b (((x2.toUInt64 >>> ((16 : Int32) &&& 0x3f).toInt64.toUInt64).toInt64).toInt32)
      have q11 := (show ((nar .byte ((((x2.toUInt64 >>> ((16 : Int32) &&& 0x3f).toInt64.toUInt64).toInt64).toInt32).toInt8.toInt32)).toInt - ((((x2.toUInt64 >>> ((16 : Int32) &&& 0x3f).toInt64.toUInt64).toInt64).toInt32).toInt8.toInt32).toInt) % 256 = 0 ∧ -128 ≤ (nar .byte ((((x2.toUInt64 >>> ((16 : Int32) &&& 0x3f).toInt64.toUInt64).toInt64).toInt32).toInt8.toInt32)).toInt ∧ (nar .byte ((((x2.toUInt64 >>> ((16 : Int32) &&& 0x3f).toInt64.toUInt64).toInt64).toInt32).toInt8.toInt32)).toInt < 128 from c_i2b ((((x2.toUInt64 >>> ((16 : Int32) &&& 0x3f).toInt64.toUInt64).toInt64).toInt32).toInt8.toInt32))
      have p0 := c32
      have p1 := c34
      simp only [true_implies, Int32.lt_iff_toInt_lt, ← Int32.toInt_inj, Int32.reduceToInt, Int64.lt_iff_toInt_lt, ← Int64.toInt_inj, Int64.reduceToInt] at q0 q1 q2 q3 q4 q5 q6 q7 q8 q9 q10 q11 p0 p1 ⊢
      omega
    refine own_stB X33 hx hZ e33 f33 (10 : Int32) ((((x2.toUInt64 >>> ((16 : Int32) &&& 0x3f).toInt64.toUInt64).toInt64).toInt32).toInt8.toInt32) ((((x2.toUInt64 >>> ((16 : Int32) &&& 0x3f).toInt64.toUInt64).toInt64).toInt32).toInt8.toInt32) 10 ⟨by decide, by decide⟩ rfl (Nat.le_of_ble_eq_true rfl) c36 [(.int ((x1.toInt32).toInt8.toInt32)), (.int ((((x1.toUInt64 >>> ((8 : Int32) &&& 0x3f).toInt64.toUInt64).toInt64).toInt32).toInt8.toInt32)), (.int ((((x1.toUInt64 >>> ((16 : Int32) &&& 0x3f).toInt64.toUInt64).toInt64).toInt32).toInt8.toInt32)), (.int ((((x1.toUInt64 >>> ((24 : Int32) &&& 0x3f).toInt64.toUInt64).toInt64).toInt32).toInt8.toInt32)), (.int ((((x1.toUInt64 >>> ((32 : Int32) &&& 0x3f).toInt64.toUInt64).toInt64).toInt32).toInt8.toInt32)), (.int ((((x1.toUInt64 >>> ((40 : Int32) &&& 0x3f).toInt64.toUInt64).toInt64).toInt32).toInt8.toInt32)), (.int ((((x1.toUInt64 >>> ((48 : Int32) &&& 0x3f).toInt64.toUInt64).toInt64).toInt32).toInt8.toInt32)), (.int ((((x1.toUInt64 >>> ((56 : Int32) &&& 0x3f).toInt64.toUInt64).toInt64).toInt32).toInt8.toInt32)), (.int ((x2.toInt32).toInt8.toInt32)), (.int ((((x2.toUInt64 >>> ((8 : Int32) &&& 0x3f).toInt64.toUInt64).toInt64).toInt32).toInt8.toInt32)), (.int ((((x2.toUInt64 >>> ((16 : Int32) &&& 0x3f).toInt64.toUInt64).toInt64).toInt32).toInt8.toInt32)), (.int (0 : Int32)), (.int (0 : Int32)), (.int (0 : Int32)), (.int (0 : Int32)), (.int (0 : Int32))] rfl N33 ge7 (hb hby at_176) ?_
    intro T35 h35 L35 X35 e35 W35 N35 f35
    show own_Go p e below _ (T35.setTop (mkF m 177 #[.val (.int x0), .val (.long x1), .second, .val (.long x2), .second, .val (.int x3), .val (.int (0 : Int32)), .val (.int (x3 &&& (65535 : Int32))), .val (.ref b2), .val (.ref b5), .unset, .unset, .unset, .unset, .unset] []))
    refine own_go (fun _ hr => XS.aload X35.here hx rfl (hb hby at_177) rfl rfl (XS.bipush X35.here hx rfl (hb hby at_179) (XS.lloadN X35.here hx rfl (hb hby at_181) rfl (XS.bipush X35.here hx rfl (hb hby at_182) (XS.lushr X35.here hx rfl (hb hby at_184) rfl (XS.l2i X35.here hx rfl (hb hby at_185) rfl (XS.i2b X35.here hx rfl (hb hby at_186) rfl hr))))))) ?_
    show own_Go p e below _ (T35.setTop (mkF m 187 #[.val (.int x0), .val (.long x1), .second, .val (.long x2), .second, .val (.int x3), .val (.int (0 : Int32)), .val (.int (x3 &&& (65535 : Int32))), .val (.ref b2), .val (.ref b5), .unset, .unset, .unset, .unset, .unset] [(.int ((((x2.toUInt64 >>> ((24 : Int32) &&& 0x3f).toInt64.toUInt64).toInt64).toInt32).toInt8.toInt32)), (.int (11 : Int32)), (.ref b5)]))
    have c38 : (nar .byte ((((x2.toUInt64 >>> ((24 : Int32) &&& 0x3f).toInt64.toUInt64).toInt64).toInt32).toInt8.toInt32)) = ((((x2.toUInt64 >>> ((24 : Int32) &&& 0x3f).toInt64.toUInt64).toInt64).toInt32).toInt8.toInt32) := by
      have q0 := rng64 x2
      have q1 := c_l2i x2
      have q2 := c_i2b (x2.toInt32)
      have q3 := (show ((nar .byte ((x2.toInt32).toInt8.toInt32)).toInt - ((x2.toInt32).toInt8.toInt32).toInt) % 256 = 0 ∧ -128 ≤ (nar .byte ((x2.toInt32).toInt8.toInt32)).toInt ∧ (nar .byte ((x2.toInt32).toInt8.toInt32)).toInt < 128 from c_i2b ((x2.toInt32).toInt8.toInt32))
      have q4 := c_lushr x2 (8 : Int32) 8 (by decide) (by decide)
      have q5 := c_l2i ((x2.toUInt64 >>> ((8 : Int32) &&& 0x3f).toInt64.toUInt64).toInt64)
      have q6 := c_i2b (((x2.toUInt64 >>> ((8 : Int32) &&& 0x3f).toInt64.toUInt64).toInt64).toInt32)
      have q7 := (show ((nar .byte ((((x2.toUInt64 >>> ((8 : Int32) &&& 0x3f).toInt64.toUInt64).toInt64).toInt32).toInt8.toInt32)).toInt - ((((x2.toUInt64 >>> ((8 : Int32) &&& 0x3f).toInt64.toUInt64).toInt64).toInt32).toInt8.toInt32).toInt) % 256 = 0 ∧ -128 ≤ (nar .byte ((((x2.toUInt64 >>> ((8 : Int32) &&& 0x3f).toInt64.toUInt64).toInt64).toInt32).toInt8.toInt32)).toInt ∧ (nar .byte ((((x2.toUInt64 >>> ((8 : Int32) &&& 0x3f).toInt64.toUInt64).toInt64).toInt32).toInt8.toInt32)).toInt < 128 from c_i2b ((((x2.toUInt64 >>> ((8 : Int32) &&& 0x3f).toInt64.toUInt64).toInt64).toInt32).toInt8.toInt32))
      have q8 := c_lushr x2 (16 : Int32) 16 (by decide) (by decide)
      have q9 := c_l2i ((x2.toUInt64 >>> ((16 : Int32) &&& 0x3f).toInt64.toUInt64).toInt64)
      have q10 := c_i2b (((x2.toUInt64 >>> ((16 : Int32) &&& 0x3f).toInt64.toUInt64).toInt64).toInt32)
      have q11 := (show ((nar .byte ((((x2.toUInt64 >>> ((16 : Int32) &&& 0x3f).toInt64.toUInt64).toInt64).toInt32).toInt8.toInt32)).toInt - ((((x2.toUInt64 >>> ((16 : Int32) &&& 0x3f).toInt64.toUInt64).toInt64).toInt32).toInt8.toInt32).toInt) % 256 = 0 ∧ -128 ≤ (nar .byte ((((x2.toUInt64 >>> ((16 : Int32) &&& 0x3f).toInt64.toUInt64).toInt64).toInt32).toInt8.toInt32)).toInt ∧ (nar .byte ((((x2.toUInt64 >>> ((16 : Int32) &&& 0x3f).toInt64.toUInt64).toInt64).toInt32).toInt8.toInt32)).toInt < 128 from c_i2b ((((x2.toUInt64 >>> ((16 : Int32) &&& 0x3f).toInt64.toUInt64).toInt64).toInt32).toInt8.toInt32))
      have q12 := c_lushr x2 (24 : Int32) 24 (by decide) (by decide)
      have q13 := c_l2i ((x2.toUInt64 >>> ((24 : Int32) &&& 0x3f).toInt64.toUInt64).toInt64)
      have q14 := c_i2b (((x2.toUInt64 >>> ((24 : Int32) &&& 0x3f).toInt64.toUInt64).toInt64).toInt32)
      have q15 := (show ((nar .byte ((((x2.toUInt64 >>> ((24 : Int32) &&& 0x3f).toInt64.toUInt64).toInt64).toInt32).toInt8.toInt32)).toInt - ((((x2.toUInt64 >>> ((24 : Int32) &&& 0x3f).toInt64.toUInt64).toInt64).toInt32).toInt8.toInt32).toInt) % 256 = 0 ∧ -128 ≤ (nar .byte ((((x2.toUInt64 >>> ((24 : Int32) &&& 0x3f).toInt64.toUInt64).toInt64).toInt32).toInt8.toInt32)).toInt ∧ (nar .byte ((((x2.toUInt64 >>> ((24 : Int32) &&& 0x3f).toInt64.toUInt64).toInt64).toInt32).toInt8.toInt32)).toInt < 128 from c_i2b ((((x2.toUInt64 >>> ((24 : Int32) &&& 0x3f).toInt64.toUInt64).toInt64).toInt32).toInt8.toInt32))
      have p0 := c32
      have p1 := c34
      have p2 := c36
      simp only [true_implies, Int32.lt_iff_toInt_lt, ← Int32.toInt_inj, Int32.reduceToInt, Int64.lt_iff_toInt_lt, ← Int64.toInt_inj, Int64.reduceToInt] at q0 q1 q2 q3 q4 q5 q6 q7 q8 q9 q10 q11 q12 q13 q14 q15 p0 p1 p2 ⊢
      omega
    refine own_stB X35 hx hZ e35 f35 (11 : Int32) ((((x2.toUInt64 >>> ((24 : Int32) &&& 0x3f).toInt64.toUInt64).toInt64).toInt32).toInt8.toInt32) ((((x2.toUInt64 >>> ((24 : Int32) &&& 0x3f).toInt64.toUInt64).toInt64).toInt32).toInt8.toInt32) 11 ⟨by decide, by decide⟩ rfl (Nat.le_of_ble_eq_true rfl) c38 [(.int ((x1.toInt32).toInt8.toInt32)), (.int ((((x1.toUInt64 >>> ((8 : Int32) &&& 0x3f).toInt64.toUInt64).toInt64).toInt32).toInt8.toInt32)), (.int ((((x1.toUInt64 >>> ((16 : Int32) &&& 0x3f).toInt64.toUInt64).toInt64).toInt32).toInt8.toInt32)), (.int ((((x1.toUInt64 >>> ((24 : Int32) &&& 0x3f).toInt64.toUInt64).toInt64).toInt32).toInt8.toInt32)), (.int ((((x1.toUInt64 >>> ((32 : Int32) &&& 0x3f).toInt64.toUInt64).toInt64).toInt32).toInt8.toInt32)), (.int ((((x1.toUInt64 >>> ((40 : Int32) &&& 0x3f).toInt64.toUInt64).toInt64).toInt32).toInt8.toInt32)), (.int ((((x1.toUInt64 >>> ((48 : Int32) &&& 0x3f).toInt64.toUInt64).toInt64).toInt32).toInt8.toInt32)), (.int ((((x1.toUInt64 >>> ((56 : Int32) &&& 0x3f).toInt64.toUInt64).toInt64).toInt32).toInt8.toInt32)), (.int ((x2.toInt32).toInt8.toInt32)), (.int ((((x2.toUInt64 >>> ((8 : Int32) &&& 0x3f).toInt64.toUInt64).toInt64).toInt32).toInt8.toInt32)), (.int ((((x2.toUInt64 >>> ((16 : Int32) &&& 0x3f).toInt64.toUInt64).toInt64).toInt32).toInt8.toInt32)), (.int ((((x2.toUInt64 >>> ((24 : Int32) &&& 0x3f).toInt64.toUInt64).toInt64).toInt32).toInt8.toInt32)), (.int (0 : Int32)), (.int (0 : Int32)), (.int (0 : Int32)), (.int (0 : Int32))] rfl N35 ge7 (hb hby at_187) ?_
    intro T37 h37 L37 X37 e37 W37 N37 f37
    show own_Go p e below _ (T37.setTop (mkF m 188 #[.val (.int x0), .val (.long x1), .second, .val (.long x2), .second, .val (.int x3), .val (.int (0 : Int32)), .val (.int (x3 &&& (65535 : Int32))), .val (.ref b2), .val (.ref b5), .unset, .unset, .unset, .unset, .unset] []))
    refine own_go (fun _ hr => XS.aload X37.here hx rfl (hb hby at_188) rfl rfl (XS.bipush X37.here hx rfl (hb hby at_190) (XS.lloadN X37.here hx rfl (hb hby at_192) rfl (XS.bipush X37.here hx rfl (hb hby at_193) (XS.lushr X37.here hx rfl (hb hby at_195) rfl (XS.l2i X37.here hx rfl (hb hby at_196) rfl (XS.i2b X37.here hx rfl (hb hby at_197) rfl hr))))))) ?_
    show own_Go p e below _ (T37.setTop (mkF m 198 #[.val (.int x0), .val (.long x1), .second, .val (.long x2), .second, .val (.int x3), .val (.int (0 : Int32)), .val (.int (x3 &&& (65535 : Int32))), .val (.ref b2), .val (.ref b5), .unset, .unset, .unset, .unset, .unset] [(.int ((((x2.toUInt64 >>> ((32 : Int32) &&& 0x3f).toInt64.toUInt64).toInt64).toInt32).toInt8.toInt32)), (.int (12 : Int32)), (.ref b5)]))
    have c40 : (nar .byte ((((x2.toUInt64 >>> ((32 : Int32) &&& 0x3f).toInt64.toUInt64).toInt64).toInt32).toInt8.toInt32)) = ((((x2.toUInt64 >>> ((32 : Int32) &&& 0x3f).toInt64.toUInt64).toInt64).toInt32).toInt8.toInt32) := by
      have q0 := rng64 x2
      have q1 := c_l2i x2
      have q2 := c_i2b (x2.toInt32)
      have q3 := (show ((nar .byte ((x2.toInt32).toInt8.toInt32)).toInt - ((x2.toInt32).toInt8.toInt32).toInt) % 256 = 0 ∧ -128 ≤ (nar .byte ((x2.toInt32).toInt8.toInt32)).toInt ∧ (nar .byte ((x2.toInt32).toInt8.toInt32)).toInt < 128 from c_i2b ((x2.toInt32).toInt8.toInt32))
      have q4 := c_lushr x2 (8 : Int32) 8 (by decide) (by decide)
      have q5 := c_l2i ((x2.toUInt64 >>> ((8 : Int32) &&& 0x3f).toInt64.toUInt64).toInt64)
      have q6 := c_i2b (((x2.toUInt64 >>> ((8 : Int32) &&& 0x3f).toInt64.toUInt64).toInt64).toInt32)
      have q7 := (show ((nar .byte ((((x2.toUInt64 >>> ((8 : Int32) &&& 0x3f).toInt64.toUInt64).toInt64).toInt32).toInt8.toInt32)).toInt - ((((x2.toUInt64 >>> ((8 : Int32) &&& 0x3f).toInt64.toUInt64).toInt64).toInt32).toInt8.toInt32).toInt) % 256 = 0 ∧ -128 ≤ (nar .byte ((((x2.toUInt64 >>> ((8 : Int32) &&& 0x3f).toInt64.toUInt64).toInt64).toInt32).toInt8.toInt32)).toInt ∧ (nar .byte ((((x2.toUInt64 >>> ((8 : Int32) &&& 0x3f).toInt64.toUInt64).toInt64).toInt32).toInt8.toInt32)).toInt < 128 from c_i2b ((((x2.toUInt64 >>> ((8 : Int32) &&& 0x3f).toInt64.toUInt64).toInt64).toInt32).toInt8.toInt32))
      have q8 := c_lushr x2 (16 : Int32) 16 (by decide) (by decide)
      have q9 := c_l2i ((x2.toUInt64 >>> ((16 : Int32) &&& 0x3f).toInt64.toUInt64).toInt64)
      have q10 := c_i2b (((x2.toUInt64 >>> ((16 : Int32) &&& 0x3f).toInt64.toUInt64).toInt64).toInt32)
      have q11 := (show ((nar .byte ((((x2.toUInt64 >>> ((16 : Int32) &&& 0x3f).toInt64.toUInt64).toInt64).toInt32).toInt8.toInt32)).toInt - ((((x2.toUInt64 >>> ((16 : Int32) &&& 0x3f).toInt64.toUInt64).toInt64).toInt32).toInt8.toInt32).toInt) % 256 = 0 ∧ -128 ≤ (nar .byte ((((x2.toUInt64 >>> ((16 : Int32) &&& 0x3f).toInt64.toUInt64).toInt64).toInt32).toInt8.toInt32)).toInt ∧ (nar .byte ((((x2.toUInt64 >>> ((16 : Int32) &&& 0x3f).toInt64.toUInt64).toInt64).toInt32).toInt8.toInt32)).toInt < 128 from c_i2b ((((x2.toUInt64 >>> ((16 : Int32) &&& 0x3f).toInt64.toUInt64).toInt64).toInt32).toInt8.toInt32))
      have q12 := c_lushr x2 (24 : Int32) 24 (by decide) (by decide)
      have q13 := c_l2i ((x2.toUInt64 >>> ((24 : Int32) &&& 0x3f).toInt64.toUInt64).toInt64)
      have q14 := c_i2b (((x2.toUInt64 >>> ((24 : Int32) &&& 0x3f).toInt64.toUInt64).toInt64).toInt32)
      have q15 := (show ((nar .byte ((((x2.toUInt64 >>> ((24 : Int32) &&& 0x3f).toInt64.toUInt64).toInt64).toInt32).toInt8.toInt32)).toInt - ((((x2.toUInt64 >>> ((24 : Int32) &&& 0x3f).toInt64.toUInt64).toInt64).toInt32).toInt8.toInt32).toInt) % 256 = 0 ∧ -128 ≤ (nar .byte ((((x2.toUInt64 >>> ((24 : Int32) &&& 0x3f).toInt64.toUInt64).toInt64).toInt32).toInt8.toInt32)).toInt ∧ (nar .byte ((((x2.toUInt64 >>> ((24 : Int32) &&& 0x3f).toInt64.toUInt64).toInt64).toInt32).toInt8.toInt32)).toInt < 128 from c_i2b ((((x2.toUInt64 >>> ((24 : Int32) &&& 0x3f).toInt64.toUInt64).toInt64).toInt32).toInt8.toInt32))
      have q16 := c_lushr x2 (32 : Int32) 32 (by decide) (by decide)
      have q17 := c_l2i ((x2.toUInt64 >>> ((32 : Int32) &&& 0x3f).toInt64.toUInt64).toInt64)
      have q18 := c_i2b (((x2.toUInt64 >>> ((32 : Int32) &&& 0x3f).toInt64.toUInt64).toInt64).toInt32)
      have q19 := (show ((nar .byte ((((x2.toUInt64 >>> ((32 : Int32) &&& 0x3f).toInt64.toUInt64).toInt64).toInt32).toInt8.toInt32)).toInt - ((((x2.toUInt64 >>> ((32 : Int32) &&& 0x3f).toInt64.toUInt64).toInt64).toInt32).toInt8.toInt32).toInt) % 256 = 0 ∧ -128 ≤ (nar .byte ((((x2.toUInt64 >>> ((32 : Int32) &&& 0x3f).toInt64.toUInt64).toInt64).toInt32).toInt8.toInt32)).toInt ∧ (nar .byte ((((x2.toUInt64 >>> ((32 : Int32) &&& 0x3f).toInt64.toUInt64).toInt64).toInt32).toInt8.toInt32)).toInt < 128 from c_i2b ((((x2.toUInt64 >>> ((32 : Int32) &&& 0x3f).toInt64.toUInt64).toInt64).toInt32).toInt8.toInt32))
      have p0 := c32
      have p1 := c34
      have p2 := c36
      have p3 := c38
      simp only [true_implies, Int32.lt_iff_toInt_lt, ← Int32.toInt_inj, Int32.reduceToInt, Int64.lt_iff_toInt_lt, ← Int64.toInt_inj, Int64.reduceToInt] at q0 q1 q2 q3 q4 q5 q6 q7 q8 q9 q10 q11 q12 q13 q14 q15 q16 q17 q18 q19 p0 p1 p2 p3 ⊢
      omega
    refine own_stB X37 hx hZ e37 f37 (12 : Int32) ((((x2.toUInt64 >>> ((32 : Int32) &&& 0x3f).toInt64.toUInt64).toInt64).toInt32).toInt8.toInt32) ((((x2.toUInt64 >>> ((32 : Int32) &&& 0x3f).toInt64.toUInt64).toInt64).toInt32).toInt8.toInt32) 12 ⟨by decide, by decide⟩ rfl (Nat.le_of_ble_eq_true rfl) c40 [(.int ((x1.toInt32).toInt8.toInt32)), (.int ((((x1.toUInt64 >>> ((8 : Int32) &&& 0x3f).toInt64.toUInt64).toInt64).toInt32).toInt8.toInt32)), (.int ((((x1.toUInt64 >>> ((16 : Int32) &&& 0x3f).toInt64.toUInt64).toInt64).toInt32).toInt8.toInt32)), (.int ((((x1.toUInt64 >>> ((24 : Int32) &&& 0x3f).toInt64.toUInt64).toInt64).toInt32).toInt8.toInt32)), (.int ((((x1.toUInt64 >>> ((32 : Int32) &&& 0x3f).toInt64.toUInt64).toInt64).toInt32).toInt8.toInt32)), (.int ((((x1.toUInt64 >>> ((40 : Int32) &&& 0x3f).toInt64.toUInt64).toInt64).toInt32).toInt8.toInt32)), (.int ((((x1.toUInt64 >>> ((48 : Int32) &&& 0x3f).toInt64.toUInt64).toInt64).toInt32).toInt8.toInt32)), (.int ((((x1.toUInt64 >>> ((56 : Int32) &&& 0x3f).toInt64.toUInt64).toInt64).toInt32).toInt8.toInt32)), (.int ((x2.toInt32).toInt8.toInt32)), (.int ((((x2.toUInt64 >>> ((8 : Int32) &&& 0x3f).toInt64.toUInt64).toInt64).toInt32).toInt8.toInt32)), (.int ((((x2.toUInt64 >>> ((16 : Int32) &&& 0x3f).toInt64.toUInt64).toInt64).toInt32).toInt8.toInt32)), (.int ((((x2.toUInt64 >>> ((24 : Int32) &&& 0x3f).toInt64.toUInt64).toInt64).toInt32).toInt8.toInt32)), (.int ((((x2.toUInt64 >>> ((32 : Int32) &&& 0x3f).toInt64.toUInt64).toInt64).toInt32).toInt8.toInt32)), (.int (0 : Int32)), (.int (0 : Int32)), (.int (0 : Int32))] rfl N37 ge7 (hb hby at_198) ?_
    intro T39 h39 L39 X39 e39 W39 N39 f39
    show own_Go p e below _ (T39.setTop (mkF m 199 #[.val (.int x0), .val (.long x1), .second, .val (.long x2), .second, .val (.int x3), .val (.int (0 : Int32)), .val (.int (x3 &&& (65535 : Int32))), .val (.ref b2), .val (.ref b5), .unset, .unset, .unset, .unset, .unset] []))
    refine own_go (fun _ hr => XS.aload X39.here hx rfl (hb hby at_199) rfl rfl (XS.bipush X39.here hx rfl (hb hby at_201) (XS.lloadN X39.here hx rfl (hb hby at_203) rfl (XS.bipush X39.here hx rfl (hb hby at_204) (XS.lushr X39.here hx rfl (hb hby at_206) rfl (XS.l2i X39.here hx rfl (hb hby at_207) rfl (XS.i2b X39.here hx rfl (hb hby at_208) rfl hr))))))) ?_
    show own_Go p e below _ (T39.setTop (mkF m 209 #[.val (.int x0), .val (.long x1), .second, .val (.long x2), .second, .val (.int x3), .val (.int (0 : Int32)), .val (.int (x3 &&& (65535 : Int32))), .val (.ref b2), .val (.ref b5), .unset, .unset, .unset, .unset, .unset] [(.int ((((x2.toUInt64 >>> ((40 : Int32) &&& 0x3f).toInt64.toUInt64).toInt64).toInt32).toInt8.toInt32)), (.int (13 : Int32)), (.ref b5)]))
    have c42 : (nar .byte ((((x2.toUInt64 >>> ((40 : Int32) &&& 0x3f).toInt64.toUInt64).toInt64).toInt32).toInt8.toInt32)) = ((((x2.toUInt64 >>> ((40 : Int32) &&& 0x3f).toInt64.toUInt64).toInt64).toInt32).toInt8.toInt32) := by
      have q0 := rng64 x2
      have q1 := c_l2i x2
      have q2 := c_i2b (x2.toInt32)
      have q3 := (show ((nar .byte ((x2.toInt32).toInt8.toInt32)).toInt - ((x2.toInt32).toInt8.toInt32).toInt) % 256 = 0 ∧ -128 ≤ (nar .byte ((x2.toInt32).toInt8.toInt32)).toInt ∧ (nar .byte ((x2.toInt32).toInt8.toInt32)).toInt < 128 from c_i2b ((x2.toInt32).toInt8.toInt32))
      have q4 := c_lushr x2 (8 : Int32) 8 (by decide) (by decide)
      have q5 := c_l2i ((x2.toUInt64 >>> ((8 : Int32) &&& 0x3f).toInt64.toUInt64).toInt64)
      have q6 := c_i2b (((x2.toUInt64 >>> ((8 : Int32) &&& 0x3f).toInt64.toUInt64).toInt64).toInt32)
      have q7 := (show ((nar .byte ((((x2.toUInt64 >>> ((8 : Int32) &&& 0x3f).toInt64.toUInt64).toInt64).toInt32).toInt8.toInt32)).toInt - ((((x2.toUInt64 >>> ((8 : Int32) &&& 0x3f).toInt64.toUInt64).toInt64).toInt32).toInt8.toInt32).toInt) % 256 = 0 ∧ -128 ≤ (nar .byte ((((x2.toUInt64 >>> ((8 : Int32) &&& 0x3f).toInt64.toUInt64).toInt64).toInt32).toInt8.toInt32)).toInt ∧ (nar .byte ((((x2.toUInt64 >>> ((8 : Int32) &&& 0x3f).toInt64.toUInt64).toInt64).toInt32).toInt8.toInt32)).toInt < 128 from c_i2b ((((x2.toUInt64 >>> ((8 : Int32) &&& 0x3f).toInt64.toUInt64).toInt64).toInt32).toInt8.toInt32))
      have q8 := c_lushr x2 (16 : Int32) 16 (by decide) (by decide)
      have q9 := c_l2i ((x2.toUInt64 >>> ((16 : Int32) &&& 0x3f).toInt64.toUInt64).toInt64)
      have q10 := c_i2b (((x2.toUInt64 >>> ((16 : Int32) &&& 0x3f).toInt64.toUInt64).toInt64).toInt32)
      have q11 := (show ((nar .byte ((((x2.toUInt64 >>> ((16 : Int32) &&& 0x3f).toInt64.toUInt64).toInt64).toInt32).toInt8.toInt32)).toInt - ((((x2.toUInt64 >>> ((16 : Int32) &&& 0x3f).toInt64.toUInt64).toInt64).toInt32).toInt8.toInt32).toInt) % 256 = 0 ∧ -128 ≤ (nar .byte ((((x2.toUInt64 >>> ((16 : Int32) &&& 0x3f).toInt64.toUInt64).toInt64).toInt32).toInt8.toInt32)).toInt ∧ (nar .byte ((((x2.toUInt64 >>> ((16 : Int32) &&& 0x3f).toInt64.toUInt64).toInt64).toInt32).toInt8.toInt32)).toInt < 128 from c_i2b ((((x2.toUInt64 >>> ((16 : Int32) &&& 0x3f).toInt64.toUInt64).toInt64).toInt32).toInt8.toInt32))
      have q12 := c_lushr x2 (24 : Int32) 24 (by decide) (by decide)
      have q13 := c_l2i ((x2.toUInt64 >>> ((24 : Int32) &&& 0x3f).toInt64.toUInt64).toInt64)
      have q14 := c_i2b (((x2.toUInt64 >>> ((24 : Int32) &&& 0x3f).toInt64.toUInt64).toInt64).toInt32)
      have q15 := (show ((nar .byte ((((x2.toUInt64 >>> ((24 : Int32) &&& 0x3f).toInt64.toUInt64).toInt64).toInt32).toInt8.toInt32)).toInt - ((((x2.toUInt64 >>> ((24 : Int32) &&& 0x3f).toInt64.toUInt64).toInt64).toInt32).toInt8.toInt32).toInt) % 256 = 0 ∧ -128 ≤ (nar .byte ((((x2.toUInt64 >>> ((24 : Int32) &&& 0x3f).toInt64.toUInt64).toInt64).toInt32).toInt8.toInt32)).toInt ∧ (nar .byte ((((x2.toUInt64 >>> ((24 : Int32) &&& 0x3f).toInt64.toUInt64).toInt64).toInt32).toInt8.toInt32)).toInt < 128 from c_i2b ((((x2.toUInt64 >>> ((24 : Int32) &&& 0x3f).toInt64.toUInt64).toInt64).toInt32).toInt8.toInt32))
      have q16 := c_lushr x2 (32 : Int32) 32 (by decide) (by decide)
      have q17 := c_l2i ((x2.toUInt64 >>> ((32 : Int32) &&& 0x3f).toInt64.toUInt64).toInt64)
      have q18 := c_i2b (((x2.toUInt64 >>> ((32 : Int32) &&& 0x3f).toInt64.toUInt64).toInt64).toInt32)
      have q19 := (show ((nar .byte ((((x2.toUInt64 >>> ((32 : Int32) &&& 0x3f).toInt64.toUInt64).toInt64).toInt32).toInt8.toInt32)).toInt - ((((x2.toUInt64 >>> ((32 : Int32) &&& 0x3f).toInt64.toUInt64).toInt64).toInt32).toInt8.toInt32).toInt) % 256 = 0 ∧ -128 ≤ (nar .byte ((((x2.toUInt64 >>> ((32 : Int32) &&& 0x3f).toInt64.toUInt64).toInt64).toInt32).toInt8.toInt32)).toInt ∧ (nar .byte ((((x2.toUInt64 >>> ((32 : Int32) &&& 0x3f).toInt64.toUInt64).toInt64).toInt32).toInt8.toInt32)).toInt < 128 from c_i2b ((((x2.toUInt64 >>> ((32 : Int32) &&& 0x3f).toInt64.toUInt64).toInt64).toInt32).toInt8.toInt32))
      have q20 := c_lushr x2 (40 : Int32) 40 (by decide) (by decide)
      have q21 := c_l2i ((x2.toUInt64 >>> ((40 : Int32) &&& 0x3f).toInt64.toUInt64).toInt64)
      have q22 := c_i2b (((x2.toUInt64 >>> ((40 : Int32) &&& 0x3f).toInt64.toUInt64).toInt64).toInt32)
      have q23 := (show ((nar .byte ((((x2.toUInt64 >>> ((40 : Int32) &&& 0x3f).toInt64.toUInt64).toInt64).toInt32).toInt8.toInt32)).toInt - ((((x2.toUInt64 >>> ((40 : Int32) &&& 0x3f).toInt64.toUInt64).toInt64).toInt32).toInt8.toInt32).toInt) % 256 = 0 ∧ -128 ≤ (nar .byte ((((x2.toUInt64 >>> ((40 : Int32) &&& 0x3f).toInt64.toUInt64).toInt64).toInt32).toInt8.toInt32)).toInt ∧ (nar .byte ((((x2.toUInt64 >>> ((40 : Int32) &&& 0x3f).toInt64.toUInt64).toInt64).toInt32).toInt8.toInt32)).toInt < 128 from c_i2b ((((x2.toUInt64 >>> ((40 : Int32) &&& 0x3f).toInt64.toUInt64).toInt64).toInt32).toInt8.toInt32))
      have p0 := c32
      have p1 := c34
      have p2 := c36
      have p3 := c38
      have p4 := c40
      simp only [true_implies, Int32.lt_iff_toInt_lt, ← Int32.toInt_inj, Int32.reduceToInt, Int64.lt_iff_toInt_lt, ← Int64.toInt_inj, Int64.reduceToInt] at q0 q1 q2 q3 q4 q5 q6 q7 q8 q9 q10 q11 q12 q13 q14 q15 q16 q17 q18 q19 q20 q21 q22 q23 p0 p1 p2 p3 p4 ⊢
      omega
    refine own_stB X39 hx hZ e39 f39 (13 : Int32) ((((x2.toUInt64 >>> ((40 : Int32) &&& 0x3f).toInt64.toUInt64).toInt64).toInt32).toInt8.toInt32) ((((x2.toUInt64 >>> ((40 : Int32) &&& 0x3f).toInt64.toUInt64).toInt64).toInt32).toInt8.toInt32) 13 ⟨by decide, by decide⟩ rfl (Nat.le_of_ble_eq_true rfl) c42 [(.int ((x1.toInt32).toInt8.toInt32)), (.int ((((x1.toUInt64 >>> ((8 : Int32) &&& 0x3f).toInt64.toUInt64).toInt64).toInt32).toInt8.toInt32)), (.int ((((x1.toUInt64 >>> ((16 : Int32) &&& 0x3f).toInt64.toUInt64).toInt64).toInt32).toInt8.toInt32)), (.int ((((x1.toUInt64 >>> ((24 : Int32) &&& 0x3f).toInt64.toUInt64).toInt64).toInt32).toInt8.toInt32)), (.int ((((x1.toUInt64 >>> ((32 : Int32) &&& 0x3f).toInt64.toUInt64).toInt64).toInt32).toInt8.toInt32)), (.int ((((x1.toUInt64 >>> ((40 : Int32) &&& 0x3f).toInt64.toUInt64).toInt64).toInt32).toInt8.toInt32)), (.int ((((x1.toUInt64 >>> ((48 : Int32) &&& 0x3f).toInt64.toUInt64).toInt64).toInt32).toInt8.toInt32)), (.int ((((x1.toUInt64 >>> ((56 : Int32) &&& 0x3f).toInt64.toUInt64).toInt64).toInt32).toInt8.toInt32)), (.int ((x2.toInt32).toInt8.toInt32)), (.int ((((x2.toUInt64 >>> ((8 : Int32) &&& 0x3f).toInt64.toUInt64).toInt64).toInt32).toInt8.toInt32)), (.int ((((x2.toUInt64 >>> ((16 : Int32) &&& 0x3f).toInt64.toUInt64).toInt64).toInt32).toInt8.toInt32)), (.int ((((x2.toUInt64 >>> ((24 : Int32) &&& 0x3f).toInt64.toUInt64).toInt64).toInt32).toInt8.toInt32)), (.int ((((x2.toUInt64 >>> ((32 : Int32) &&& 0x3f).toInt64.toUInt64).toInt64).toInt32).toInt8.toInt32)), (.int ((((x2.toUInt64 >>> ((40 : Int32) &&& 0x3f).toInt64.toUInt64).toInt64).toInt32).toInt8.toInt32)), (.int (0 : Int32)), (.int (0 : Int32))] rfl N39 ge7 (hb hby at_209) ?_
    intro T41 h41 L41 X41 e41 W41 N41 f41
    show own_Go p e below _ (T41.setTop (mkF m 210 #[.val (.int x0), .val (.long x1), .second, .val (.long x2), .second, .val (.int x3), .val (.int (0 : Int32)), .val (.int (x3 &&& (65535 : Int32))), .val (.ref b2), .val (.ref b5), .unset, .unset, .unset, .unset, .unset] []))
    refine own_go (fun _ hr => XS.aload X41.here hx rfl (hb hby at_210) rfl rfl (XS.bipush X41.here hx rfl (hb hby at_212) (XS.lloadN X41.here hx rfl (hb hby at_214) rfl (XS.bipush X41.here hx rfl (hb hby at_215) (XS.lushr X41.here hx rfl (hb hby at_217) rfl (XS.l2i X41.here hx rfl (hb hby at_218) rfl (XS.i2b X41.here hx rfl (hb hby at_219) rfl hr))))))) ?_
    show own_Go p e below _ (T41.setTop (mkF m 220 #[.val (.int x0), .val (.long x1), .second, .val (.long x2), .second, .val (.int x3), .val (.int (0 : Int32)), .val (.int (x3 &&& (65535 : Int32))), .val (.ref b2), .val (.ref b5), .unset, .unset, .unset, .unset, .unset] [(.int ((((x2.toUInt64 >>> ((48 : Int32) &&& 0x3f).toInt64.toUInt64).toInt64).toInt32).toInt8.toInt32)), (.int (14 : Int32)), (.ref b5)]))
    have c44 : (nar .byte ((((x2.toUInt64 >>> ((48 : Int32) &&& 0x3f).toInt64.toUInt64).toInt64).toInt32).toInt8.toInt32)) = ((((x2.toUInt64 >>> ((48 : Int32) &&& 0x3f).toInt64.toUInt64).toInt64).toInt32).toInt8.toInt32) := by
      have q0 := rng64 x2
      have q1 := c_l2i x2
      have q2 := c_i2b (x2.toInt32)
      have q3 := (show ((nar .byte ((x2.toInt32).toInt8.toInt32)).toInt - ((x2.toInt32).toInt8.toInt32).toInt) % 256 = 0 ∧ -128 ≤ (nar .byte ((x2.toInt32).toInt8.toInt32)).toInt ∧ (nar .byte ((x2.toInt32).toInt8.toInt32)).toInt < 128 from c_i2b ((x2.toInt32).toInt8.toInt32))
      have q4 := c_lushr x2 (8 : Int32) 8 (by decide) (by decide)
      have q5 := c_l2i ((x2.toUInt64 >>> ((8 : Int32) &&& 0x3f).toInt64.toUInt64).toInt64)
      have q6 := c_i2b (((x2.toUInt64 >>> ((8 : Int32) &&& 0x3f).toInt64.toUInt64).toInt64).toInt32)
      have q7 := (show ((nar .byte ((((x2.toUInt64 >>> ((8 : Int32) &&& 0x3f).toInt64.toUInt64).toInt64).toInt32).toInt8.toInt32)).toInt - ((((x2.toUInt64 >>> ((8 : Int32) &&& 0x3f).toInt64.toUInt64).toInt64).toInt32).toInt8.toInt32).toInt) % 256 = 0 ∧ -128 ≤ (nar .byte ((((x2.toUInt64 >>> ((8 : Int32) &&& 0x3f).toInt64.toUInt64).toInt64).toInt32).toInt8.toInt32)).toInt ∧ (nar .byte ((((x2.toUInt64 >>> ((8 : Int32) &&& 0x3f).toInt64.toUInt64).toInt64).toInt32).toInt8.toInt32)).toInt < 128 from c_i2b ((((x2.toUInt64 >>> ((8 : Int32) &&& 0x3f).toInt64.toUInt64).toInt64).toInt32).toInt8.toInt32))
      have q8 := c_lushr x2 (16 : Int32) 16 (by decide) (by decide)
      have q9 := c_l2i ((x2.toUInt64 >>> ((16 : Int32) &&& 0x3f).toInt64.toUInt64).toInt64)
      have q10 := c_i2b (((x2.toUInt64 >>> ((16 : Int32) &&& 0x3f).toInt64.toUInt64).toInt64).toInt32)
      have q11 := (show ((nar .byte ((((x2.toUInt64 >>> ((16 : Int32) &&& 0x3f).toInt64.toUInt64).toInt64).toInt32).toInt8.toInt32)).toInt - ((((x2.toUInt64 >>> ((16 : Int32) &&& 0x3f).toInt64.toUInt64).toInt64).toInt32).toInt8.toInt32).toInt) % 256 = 0 ∧ -128 ≤ (nar .byte ((((x2.toUInt64 >>> ((16 : Int32) &&& 0x3f).toInt64.toUInt64).toInt64).toInt32).toInt8.toInt32)).toInt ∧ (nar .byte ((((x2.toUInt64 >>> ((16 : Int32) &&& 0x3f).toInt64.toUInt64).toInt64).toInt32).toInt8.toInt32)).toInt < 128 from c_i2b ((((x2.toUInt64 >>> ((16 : Int32) &&& 0x3f).toInt64.toUInt64).toInt64).toInt32).toInt8.toInt32))
      have q12 := c_lushr x2 (24 : Int32) 24 (by decide) (by decide)
      have q13 := c_l2i ((x2.toUInt64 >>> ((24 : Int32) &&& 0x3f).toInt64.toUInt64).toInt64)
      have q14 := c_i2b (((x2.toUInt64 >>> ((24 : Int32) &&& 0x3f).toInt64.toUInt64).toInt64).toInt32)
      have q15 := (show ((nar .byte ((((x2.toUInt64 >>> ((24 : Int32) &&& 0x3f).toInt64.toUInt64).toInt64).toInt32).toInt8.toInt32)).toInt - ((((x2.toUInt64 >>> ((24 : Int32) &&& 0x3f).toInt64.toUInt64).toInt64).toInt32).toInt8.toInt32).toInt) % 256 = 0 ∧ -128 ≤ (nar .byte ((((x2.toUInt64 >>> ((24 : Int32) &&& 0x3f).toInt64.toUInt64).toInt64).toInt32).toInt8.toInt32)).toInt ∧ (nar .byte ((((x2.toUInt64 >>> ((24 : Int32) &&& 0x3f).toInt64.toUInt64).toInt64).toInt32).toInt8.toInt32)).toInt < 128 from c_i2b ((((x2.toUInt64 >>> ((24 : Int32) &&& 0x3f).toInt64.toUInt64).toInt64).toInt32).toInt8.toInt32))
      have q16 := c_lushr x2 (32 : Int32) 32 (by decide) (by decide)
      have q17 := c_l2i ((x2.toUInt64 >>> ((32 : Int32) &&& 0x3f).toInt64.toUInt64).toInt64)
      have q18 := c_i2b (((x2.toUInt64 >>> ((32 : Int32) &&& 0x3f).toInt64.toUInt64).toInt64).toInt32)
      have q19 := (show ((nar .byte ((((x2.toUInt64 >>> ((32 : Int32) &&& 0x3f).toInt64.toUInt64).toInt64).toInt32).toInt8.toInt32)).toInt - ((((x2.toUInt64 >>> ((32 : Int32) &&& 0x3f).toInt64.toUInt64).toInt64).toInt32).toInt8.toInt32).toInt) % 256 = 0 ∧ -128 ≤ (nar .byte ((((x2.toUInt64 >>> ((32 : Int32) &&& 0x3f).toInt64.toUInt64).toInt64).toInt32).toInt8.toInt32)).toInt ∧ (nar .byte ((((x2.toUInt64 >>> ((32 : Int32) &&& 0x3f).toInt64.toUInt64).toInt64).toInt32).toInt8.toInt32)).toInt < 128 from c_i2b ((((x2.toUInt64 >>> ((32 : Int32) &&& 0x3f).toInt64.toUInt64).toInt64).toInt32).toInt8.toInt32))
      have q20 := c_lushr x2 (40 : Int32) 40 (by decide) (by decide)
      have q21 := c_l2i ((x2.toUInt64 >>> ((40 : Int32) &&& 0x3f).toInt64.toUInt64).toInt64)
      have q22 := c_i2b (((x2.toUInt64 >>> ((40 : Int32) &&& 0x3f).toInt64.toUInt64).toInt64).toInt32)
      have q23 := (show ((nar .byte ((((x2.toUInt64 >>> ((40 : Int32) &&& 0x3f).toInt64.toUInt64).toInt64).toInt32).toInt8.toInt32)).toInt - ((((x2.toUInt64 >>> ((40 : Int32) &&& 0x3f).toInt64.toUInt64).toInt64).toInt32).toInt8.toInt32).toInt) % 256 = 0 ∧ -128 ≤ (nar .byte ((((x2.toUInt64 >>> ((40 : Int32) &&& 0x3f).toInt64.toUInt64).toInt64).toInt32).toInt8.toInt32)).toInt ∧ (nar .byte ((((x2.toUInt64 >>> ((40 : Int32) &&& 0x3f).toInt64.toUInt64).toInt64).toInt32).toInt8.toInt32)).toInt < 128 from c_i2b ((((x2.toUInt64 >>> ((40 : Int32) &&& 0x3f).toInt64.toUInt64).toInt64).toInt32).toInt8.toInt32))
      have q24 := c_lushr x2 (48 : Int32) 48 (by decide) (by decide)
      have q25 := c_l2i ((x2.toUInt64 >>> ((48 : Int32) &&& 0x3f).toInt64.toUInt64).toInt64)
      have q26 := c_i2b (((x2.toUInt64 >>> ((48 : Int32) &&& 0x3f).toInt64.toUInt64).toInt64).toInt32)
      have q27 := (show ((nar .byte ((((x2.toUInt64 >>> ((48 : Int32) &&& 0x3f).toInt64.toUInt64).toInt64).toInt32).toInt8.toInt32)).toInt - ((((x2.toUInt64 >>> ((48 : Int32) &&& 0x3f).toInt64.toUInt64).toInt64).toInt32).toInt8.toInt32).toInt) % 256 = 0 ∧ -128 ≤ (nar .byte ((((x2.toUInt64 >>> ((48 : Int32) &&& 0x3f).toInt64.toUInt64).toInt64).toInt32).toInt8.toInt32)).toInt ∧ (nar .byte ((((x2.toUInt64 >>> ((48 : Int32) &&& 0x3f).toInt64.toUInt64).toInt64).toInt32).toInt8.toInt32)).toInt < 128 from c_i2b ((((x2.toUInt64 >>> ((48 : Int32) &&& 0x3f).toInt64.toUInt64).toInt64).toInt32).toInt8.toInt32))
      have p0 := c32
      have p1 := c34
      have p2 := c36
      have p3 := c38
      have p4 := c40
      have p5 := c42
      simp only [true_implies, Int32.lt_iff_toInt_lt, ← Int32.toInt_inj, Int32.reduceToInt, Int64.lt_iff_toInt_lt, ← Int64.toInt_inj, Int64.reduceToInt] at q0 q1 q2 q3 q4 q5 q6 q7 q8 q9 q10 q11 q12 q13 q14 q15 q16 q17 q18 q19 q20 q21 q22 q23 q24 q25 q26 q27 p0 p1 p2 p3 p4 p5 ⊢
      omega
    refine own_stB X41 hx hZ e41 f41 (14 : Int32) ((((x2.toUInt64 >>> ((48 : Int32) &&& 0x3f).toInt64.toUInt64).toInt64).toInt32).toInt8.toInt32) ((((x2.toUInt64 >>> ((48 : Int32) &&& 0x3f).toInt64.toUInt64).toInt64).toInt32).toInt8.toInt32) 14 ⟨by decide, by decide⟩ rfl (Nat.le_of_ble_eq_true rfl) c44 [(.int ((x1.toInt32).toInt8.toInt32)), (.int ((((x1.toUInt64 >>> ((8 : Int32) &&& 0x3f).toInt64.toUInt64).toInt64).toInt32).toInt8.toInt32)), (.int ((((x1.toUInt64 >>> ((16 : Int32) &&& 0x3f).toInt64.toUInt64).toInt64).toInt32).toInt8.toInt32)), (.int ((((x1.toUInt64 >>> ((24 : Int32) &&& 0x3f).toInt64.toUInt64).toInt64).toInt32).toInt8.toInt32)), (.int ((((x1.toUInt64 >>> ((32 : Int32) &&& 0x3f).toInt64.toUInt64).toInt64).toInt32).toInt8.toInt32)), (.int ((((x1.toUInt64 >>> ((40 : Int32) &&& 0x3f).toInt64.toUInt64).toInt64).toInt32).toInt8.toInt32)), (.int ((((x1.toUInt64 >>> ((48 : Int32) &&& 0x3f).toInt64.toUInt64).toInt64).toInt32).toInt8.toInt32)), (.int ((((x1.toUInt64 >>> ((56 : Int32) &&& 0x3f).toInt64.toUInt64).toInt64).toInt32).toInt8.toInt32)), (.int ((x2.toInt32).toInt8.toInt32)), (.int ((((x2.toUInt64 >>> ((8 : Int32) &&& 0x3f).toInt64.toUInt64).toInt64).toInt32).toInt8.toInt32)), (.int ((((x2.toUInt64 >>> ((16 : Int32) &&& 0x3f).toInt64.toUInt64).toInt64).toInt32).toInt8.toInt32)), (.int ((((x2.toUInt64 >>> ((24 : Int32) &&& 0x3f).toInt64.toUInt64).toInt64).toInt32).toInt8.toInt32)), (.int ((((x2.toUInt64 >>> ((32 : Int32) &&& 0x3f).toInt64.toUInt64).toInt64).toInt32).toInt8.toInt32)), (.int ((((x2.toUInt64 >>> ((40 : Int32) &&& 0x3f).toInt64.toUInt64).toInt64).toInt32).toInt8.toInt32)), (.int ((((x2.toUInt64 >>> ((48 : Int32) &&& 0x3f).toInt64.toUInt64).toInt64).toInt32).toInt8.toInt32)), (.int (0 : Int32))] rfl N41 ge7 (hb hby at_220) ?_
    intro T43 h43 L43 X43 e43 W43 N43 f43
    show own_Go p e below _ (T43.setTop (mkF m 221 #[.val (.int x0), .val (.long x1), .second, .val (.long x2), .second, .val (.int x3), .val (.int (0 : Int32)), .val (.int (x3 &&& (65535 : Int32))), .val (.ref b2), .val (.ref b5), .unset, .unset, .unset, .unset, .unset] []))
    refine own_go (fun _ hr => XS.aload X43.here hx rfl (hb hby at_221) rfl rfl (XS.bipush X43.here hx rfl (hb hby at_223) (XS.lloadN X43.here hx rfl (hb hby at_225) rfl (XS.bipush X43.here hx rfl (hb hby at_226) (XS.lushr X43.here hx rfl (hb hby at_228) rfl (XS.l2i X43.here hx rfl (hb hby at_229) rfl (XS.i2b X43.here hx rfl (hb hby at_230) rfl hr))))))) ?_
    show own_Go p e below _ (T43.setTop (mkF m 231 #[.val (.int x0), .val (.long x1), .second, .val (.long x2), .second, .val (.int x3), .val (.int (0 : Int32)), .val (.int (x3 &&& (65535 : Int32))), .val (.ref b2), .val (.ref b5), .unset, .unset, .unset, .unset, .unset] [(.int ((((x2.toUInt64 >>> ((56 : Int32) &&& 0x3f).toInt64.toUInt64).toInt64).toInt32).toInt8.toInt32)), (.int (15 : Int32)), (.ref b5)]))
    have c46 : (nar .byte ((((x2.toUInt64 >>> ((56 : Int32) &&& 0x3f).toInt64.toUInt64).toInt64).toInt32).toInt8.toInt32)) = ((((x2.toUInt64 >>> ((56 : Int32) &&& 0x3f).toInt64.toUInt64).toInt64).toInt32).toInt8.toInt32) := by
      have q0 := rng64 x2
      have q1 := c_l2i x2
      have q2 := c_i2b (x2.toInt32)
      have q3 := (show ((nar .byte ((x2.toInt32).toInt8.toInt32)).toInt - ((x2.toInt32).toInt8.toInt32).toInt) % 256 = 0 ∧ -128 ≤ (nar .byte ((x2.toInt32).toInt8.toInt32)).toInt ∧ (nar .byte ((x2.toInt32).toInt8.toInt32)).toInt < 128 from c_i2b ((x2.toInt32).toInt8.toInt32))
      have q4 := c_lushr x2 (8 : Int32) 8 (by decide) (by decide)
      have q5 := c_l2i ((x2.toUInt64 >>> ((8 : Int32) &&& 0x3f).toInt64.toUInt64).toInt64)
      have q6 := c_i2b (((x2.toUInt64 >>> ((8 : Int32) &&& 0x3f).toInt64.toUInt64).toInt64).toInt32)
      have q7 := (show ((nar .byte ((((x2.toUInt64 >>> ((8 : Int32) &&& 0x3f).toInt64.toUInt64).toInt64).toInt32).toInt8.toInt32)).toInt - ((((x2.toUInt64 >>> ((8 : Int32) &&& 0x3f).toInt64.toUInt64).toInt64).toInt32).toInt8.toInt32).toInt) % 256 = 0 ∧ -128 ≤ (nar .byte ((((x2.toUInt64 >>> ((8 : Int32) &&& 0x3f).toInt64.toUInt64).toInt64).toInt32).toInt8.toInt32)).toInt ∧ (nar .byte ((((x2.toUInt64 >>> ((8 : Int32) &&& 0x3f).toInt64.toUInt64).toInt64).toInt32).toInt8.toInt32)).toInt < 128 from c_i2b ((((x2.toUInt64 >>> ((8 : Int32) &&& 0x3f).toInt64.toUInt64).toInt64).toInt32).toInt8.toInt32))
      have q8 := c_lushr x2 (16 : Int32) 16 (by decide) (by decide)
      have q9 := c_l2i ((x2.toUInt64 >>> ((16 : Int32) &&& 0x3f).toInt64.toUInt64).toInt64)
      have q10 := c_i2b (((x2.toUInt64 >>> ((16 : Int32) &&& 0x3f).toInt64.toUInt64).toInt64).toInt32)
      have q11 := (show ((nar .byte ((((x2.toUInt64 >>> ((16 : Int32) &&& 0x3f).toInt64.toUInt64).toInt64).toInt32).toInt8.toInt32)).toInt - ((((x2.toUInt64 >>> ((16 : Int32) &&& 0x3f).toInt64.toUInt64).toInt64).toInt32).toInt8.toInt32).toInt) % 256 = 0 ∧ -128 ≤ (nar .byte ((((x2.toUInt64 >>> ((16 : Int32) &&& 0x3f).toInt64.toUInt64).toInt64).toInt32).toInt8.toInt32)).toInt ∧ (nar .byte ((((x2.toUInt64 >>> ((16 : Int32) &&& 0x3f).toInt64.toUInt64).toInt64).toInt32).toInt8.toInt32)).toInt < 128 from c_i2b ((((x2.toUInt64 >>> ((16 : Int32) &&& 0x3f).toInt64.toUInt64).toInt64).toInt32).toInt8.toInt32))
      have q12 := c_lushr x2 (24 : Int32) 24 (by decide) (by decide)
      have q13 := c_l2i ((x2.toUInt64 >>> ((24 : Int32) &&& 0x3f).toInt64.toUInt64).toInt64)
      have q14 := c_i2b (((x2.toUInt64 >>> ((24 : Int32) &&& 0x3f).toInt64.toUInt64).toInt64).toInt32)
      have q15 := (show ((nar .byte ((((x2.toUInt64 >>> ((24 : Int32) &&& 0x3f).toInt64.toUInt64).toInt64).toInt32).toInt8.toInt32)).toInt - ((((x2.toUInt64 >>> ((24 : Int32) &&& 0x3f).toInt64.toUInt64).toInt64).toInt32).toInt8.toInt32).toInt) % 256 = 0 ∧ -128 ≤ (nar .byte ((((x2.toUInt64 >>> ((24 : Int32) &&& 0x3f).toInt64.toUInt64).toInt64).toInt32).toInt8.toInt32)).toInt ∧ (nar .byte ((((x2.toUInt64 >>> ((24 : Int32) &&& 0x3f).toInt64.toUInt64).toInt64).toInt32).toInt8.toInt32)).toInt < 128 from c_i2b ((((x2.toUInt64 >>> ((24 : Int32) &&& 0x3f).toInt64.toUInt64).toInt64).toInt32).toInt8.toInt32))
      have q16 := c_lushr x2 (32 : Int32) 32 (by decide) (by decide)
      have q17 := c_l2i ((x2.toUInt64 >>> ((32 : Int32) &&& 0x3f).toInt64.toUInt64).toInt64)
      have q18 := c_i2b (((x2.toUInt64 >>> ((32 : Int32) &&& 0x3f).toInt64.toUInt64).toInt64).toInt32)
      have q19 := (show ((nar .byte ((((x2.toUInt64 >>> ((32 : Int32) &&& 0x3f).toInt64.toUInt64).toInt64).toInt32).toInt8.toInt32)).toInt - ((((x2.toUInt64 >>> ((32 : Int32) &&& 0x3f).toInt64.toUInt64).toInt64).toInt32).toInt8.toInt32).toInt) % 256 = 0 ∧ -128 ≤ (nar .byte ((((x2.toUInt64 >>> ((32 : Int32) &&& 0x3f).toInt64.toUInt64).toInt64).toInt32).toInt8.toInt32)).toInt ∧ (nar .byte ((((x2.toUInt64 >>> ((32 : Int32) &&& 0x3f).toInt64.toUInt64).toInt64).toInt32).toInt8.toInt32)).toInt < 128 from c_i2b ((((x2.toUInt64 >>> ((32 : Int32) &&& 0x3f).toInt64.toUInt64).toInt64).toInt32).toInt8.toInt32))
      have q20 := c_lushr x2 (40 : Int32) 40 (by decide) (by decide)
      have q21 := c_l2i ((x2.toUInt64 >>> ((40 : Int32) &&& 0x3f).toInt64.toUInt64).toInt64)
      have q22 := c_i2b (((x2.toUInt64 >>> ((40 : Int32) &&& 0x3f).toInt64.toUInt64).toInt64).toInt32)
      have q23 := (show ((nar .byte ((((x2.toUInt64 >>> ((40 : Int32) &&& 0x3f).toInt64.toUInt64).toInt64).toInt32).toInt8.toInt32)).toInt - ((((x2.toUInt64 >>> ((40 : Int32) &&& 0x3f).toInt64.toUInt64).toInt64).toInt32).toInt8.toInt32).toInt) % 256 = 0 ∧ -128 ≤ (nar .byte ((((x2.toUInt64 >>> ((40 : Int32) &&& 0x3f).toInt64.toUInt64).toInt64).toInt32).toInt8.toInt32)).toInt ∧ (nar .byte ((((x2.toUInt64 >>> ((40 : Int32) &&& 0x3f).toInt64.toUInt64).toInt64).toInt32).toInt8.toInt32)).toInt < 128 from c_i2b ((((x2.toUInt64 >>> ((40 : Int32) &&& 0x3f).toInt64.toUInt64).toInt64).toInt32).toInt8.toInt32))
      have q24 := c_lushr x2 (48 : Int32) 48 (by decide) (by decide)
      have q25 := c_l2i ((x2.toUInt64 >>> ((48 : Int32) &&& 0x3f).toInt64.toUInt64).toInt64)
      have q26 := c_i2b (((x2.toUInt64 >>> ((48 : Int32) &&& 0x3f).toInt64.toUInt64).toInt64).toInt32)
      have q27 := (show ((nar .byte ((((x2.toUInt64 >>> ((48 : Int32) &&& 0x3f).toInt64.toUInt64).toInt64).toInt32).toInt8.toInt32)).toInt - ((((x2.toUInt64 >>> ((48 : Int32) &&& 0x3f).toInt64.toUInt64).toInt64).toInt32).toInt8.toInt32).toInt) % 256 = 0 ∧ -128 ≤ (nar .byte ((((x2.toUInt64 >>> ((48 : Int32) &&& 0x3f).toInt64.toUInt64).toInt64).toInt32).toInt8.toInt32)).toInt ∧ (nar .byte ((((x2.toUInt64 >>> ((48 : Int32) &&& 0x3f).toInt64.toUInt64).toInt64).toInt32).toInt8.toInt32)).toInt < 128 from c_i2b ((((x2.toUInt64 >>> ((48 : Int32) &&& 0x3f).toInt64.toUInt64).toInt64).toInt32).toInt8.toInt32))
      have q28 := c_lushr x2 (56 : Int32) 56 (by decide) (by decide)
      have q29 := c_l2i ((x2.toUInt64 >>> ((56 : Int32) &&& 0x3f).toInt64.toUInt64).toInt64)
      have q30 := c_i2b (((x2.toUInt64 >>> ((56 : Int32) &&& 0x3f).toInt64.toUInt64).toInt64).toInt32)
      have q31 := (show ((nar .byte ((((x2.toUInt64 >>> ((56 : Int32) &&& 0x3f).toInt64.toUInt64).toInt64).toInt32).toInt8.toInt32)).toInt - ((((x2.toUInt64 >>> ((56 : Int32) &&& 0x3f).toInt64.toUInt64).toInt64).toInt32).toInt8.toInt32).toInt) % 256 = 0 ∧ -128 ≤ (nar .byte ((((x2.toUInt64 >>> ((56 : Int32) &&& 0x3f).toInt64.toUInt64).toInt64).toInt32).toInt8.toInt32)).toInt ∧ (nar .byte ((((x2.toUInt64 >>> ((56 : Int32) &&& 0x3f).toInt64.toUInt64).toInt64).toInt32).toInt8.toInt32)).toInt < 128 from c_i2b ((((x2.toUInt64 >>> ((56 : Int32) &&& 0x3f).toInt64.toUInt64).toInt64).toInt32).toInt8.toInt32))
      have p0 := c32
      have p1 := c34
      have p2 := c36
      have p3 := c38
      have p4 := c40
      have p5 := c42
      have p6 := c44
      simp only [true_implies, Int32.lt_iff_toInt_lt, ← Int32.toInt_inj, Int32.reduceToInt, Int64.lt_iff_toInt_lt, ← Int64.toInt_inj, Int64.reduceToInt] at q0 q1 q2 q3 q4 q5 q6 q7 q8 q9 q10 q11 q12 q13 q14 q15 q16 q17 q18 q19 q20 q21 q22 q23 q24 q25 q26 q27 q28 q29 q30 q31 p0 p1 p2 p3 p4 p5 p6 ⊢
      omega
    refine own_stB X43 hx hZ e43 f43 (15 : Int32) ((((x2.toUInt64 >>> ((56 : Int32) &&& 0x3f).toInt64.toUInt64).toInt64).toInt32).toInt8.toInt32) ((((x2.toUInt64 >>> ((56 : Int32) &&& 0x3f).toInt64.toUInt64).toInt64).toInt32).toInt8.toInt32) 15 ⟨by decide, by decide⟩ rfl (Nat.le_of_ble_eq_true rfl) c46 [(.int ((x1.toInt32).toInt8.toInt32)), (.int ((((x1.toUInt64 >>> ((8 : Int32) &&& 0x3f).toInt64.toUInt64).toInt64).toInt32).toInt8.toInt32)), (.int ((((x1.toUInt64 >>> ((16 : Int32) &&& 0x3f).toInt64.toUInt64).toInt64).toInt32).toInt8.toInt32)), (.int ((((x1.toUInt64 >>> ((24 : Int32) &&& 0x3f).toInt64.toUInt64).toInt64).toInt32).toInt8.toInt32)), (.int ((((x1.toUInt64 >>> ((32 : Int32) &&& 0x3f).toInt64.toUInt64).toInt64).toInt32).toInt8.toInt32)), (.int ((((x1.toUInt64 >>> ((40 : Int32) &&& 0x3f).toInt64.toUInt64).toInt64).toInt32).toInt8.toInt32)), (.int ((((x1.toUInt64 >>> ((48 : Int32) &&& 0x3f).toInt64.toUInt64).toInt64).toInt32).toInt8.toInt32)), (.int ((((x1.toUInt64 >>> ((56 : Int32) &&& 0x3f).toInt64.toUInt64).toInt64).toInt32).toInt8.toInt32)), (.int ((x2.toInt32).toInt8.toInt32)), (.int ((((x2.toUInt64 >>> ((8 : Int32) &&& 0x3f).toInt64.toUInt64).toInt64).toInt32).toInt8.toInt32)), (.int ((((x2.toUInt64 >>> ((16 : Int32) &&& 0x3f).toInt64.toUInt64).toInt64).toInt32).toInt8.toInt32)), (.int ((((x2.toUInt64 >>> ((24 : Int32) &&& 0x3f).toInt64.toUInt64).toInt64).toInt32).toInt8.toInt32)), (.int ((((x2.toUInt64 >>> ((32 : Int32) &&& 0x3f).toInt64.toUInt64).toInt64).toInt32).toInt8.toInt32)), (.int ((((x2.toUInt64 >>> ((40 : Int32) &&& 0x3f).toInt64.toUInt64).toInt64).toInt32).toInt8.toInt32)), (.int ((((x2.toUInt64 >>> ((48 : Int32) &&& 0x3f).toInt64.toUInt64).toInt64).toInt32).toInt8.toInt32)), (.int ((((x2.toUInt64 >>> ((56 : Int32) &&& 0x3f).toInt64.toUInt64).toInt64).toInt32).toInt8.toInt32))] rfl N43 ge7 (hb hby at_231) ?_
    intro T45 h45 L45 X45 e45 W45 N45 f45
    show own_Go p e below _ (T45.setTop (mkF m 232 #[.val (.int x0), .val (.long x1), .second, .val (.long x2), .second, .val (.int x3), .val (.int (0 : Int32)), .val (.int (x3 &&& (65535 : Int32))), .val (.ref b2), .val (.ref b5), .unset, .unset, .unset, .unset, .unset] []))
    refine own_go (fun _ hr => XS.iload X45.here hx rfl (hb hby at_232) rfl (XS.ifYes X45.here hx rfl (pc0 := 234) (pc' := 242) rfl (hb hby at_234) rfl ((if0 _ _).trans (teq (by decide)).1) (by decide) (by decide) (XS.aload X45.here hx rfl (hb hby at_242) rfl rfl (XS.astore X45.here hx rfl (hb hby at_244) rfl rfl (l' := #[.val (.int x0), .val (.long x1), .second, .val (.long x2), .second, .val (.int x3), .val (.int (0 : Int32)), .val (.int (x3 &&& (65535 : Int32))), .val (.ref b2), .val (.ref b5), .val (.ref b2), .unset, .unset, .unset, .unset]) rfl hr)))) ?_
    show own_Go p e below _ (T45.setTop (mkF m 246 #[.val (.int x0), .val (.long x1), .second, .val (.long x2), .second, .val (.int x3), .val (.int (0 : Int32)), .val (.int (x3 &&& (65535 : Int32))), .val (.ref b2), .val (.ref b5), .val (.ref b2), .unset, .unset, .unset, .unset] []))
    obtain ⟨T47, h47, X47, e47, E47, A47, D47, -, st47⟩ := newO X45 hx hZ hown (hw _ (own_m 2 rfl)) (hw _ (own_m 3 rfl)) (hw _ (own_m 4 rfl)) e45 (g := (mkF m 246 #[.val (.int x0), .val (.long x1), .second, .val (.long x2), .second, .val (.int x3), .val (.int (0 : Int32)), .val (.int (x3 &&& (65535 : Int32))), .val (.ref b2), .val (.ref b5), .val (.ref b2), .unset, .unset, .unset, .unset] [])) rfl (hb hby at_246) (by decide) (by decide)
    obtain ⟨b47, g47⟩ : ∃ z, z = h45.size := ⟨_, rfl⟩
    rw [← g47] at A47 D47 st47
    have Z48 := (Nat.le_trans (Nat.le_trans (Nat.le_trans (Nat.le_trans (Nat.le_trans (Nat.le_trans (Nat.le_trans (Nat.le_trans (Nat.le_trans (Nat.le_trans (Nat.le_trans (Nat.le_trans (Nat.le_trans (Nat.le_trans (Nat.le_trans (Nat.le_trans (Nat.le_trans (Nat.le_trans (Nat.le_trans (Nat.le_trans (Nat.le_trans Z6 E5.1) (Nat.le_of_eq W10.size.symm)) (Nat.le_of_eq W12.size.symm)) (Nat.le_of_eq W14.size.symm)) (Nat.le_of_eq W16.size.symm)) (Nat.le_of_eq W19.size.symm)) (Nat.le_of_eq W20.size.symm)) (Nat.le_of_eq W21.size.symm)) (Nat.le_of_eq W22.size.symm)) (Nat.le_of_eq W23.size.symm)) (Nat.le_of_eq W25.size.symm)) (Nat.le_of_eq W27.size.symm)) (Nat.le_of_eq W29.size.symm)) (Nat.le_of_eq W31.size.symm)) (Nat.le_of_eq W33.size.symm)) (Nat.le_of_eq W35.size.symm)) (Nat.le_of_eq W37.size.symm)) (Nat.le_of_eq W39.size.symm)) (Nat.le_of_eq W41.size.symm)) (Nat.le_of_eq W43.size.symm)) (Nat.le_of_eq W45.size.symm))
    have ge49 : n0 ≤ b47 := Nat.le_trans Z48 (Nat.le_of_eq g47.symm)
    refine own_go st47 ?_
    have f50 : Fld Z h47 b47 "com/example/appenddb/appenddb/HostAddress" "address" "[B" .null := D47 (Or.inr (hw _ (own_m 22 rfl))) (ty := (.array .byte)) (by decide)
    have f51 : Fld Z h47 b47 "com/example/appenddb/appenddb/HostAddress" "port" "I" (.int (0 : Int32)) := D47 (Or.inr (hw _ (own_m 24 rfl))) (ty := .int) (by decide)
    show own_Go p e below _ (T47.setTop (mkF m 249 #[.val (.int x0), .val (.long x1), .second, .val (.long x2), .second, .val (.int x3), .val (.int (0 : Int32)), .val (.int (x3 &&& (65535 : Int32))), .val (.ref b2), .val (.ref b5), .val (.ref b2), .unset, .unset, .unset, .unset] [(.ref b47)]))
    refine own_go (fun _ hr => XS.dup X47.here hx rfl (hb hby at_249) rfl rfl (XS.aload X47.here hx rfl (hb hby at_250) rfl rfl (XS.iload X47.here hx rfl (hb hby at_252) rfl hr))) ?_
    show own_Go p e below _ (T47.setTop (mkF m 254 #[.val (.int x0), .val (.long x1), .second, .val (.long x2), .second, .val (.int x3), .val (.int (0 : Int32)), .val (.int (x3 &&& (65535 : Int32))), .val (.ref b2), .val (.ref b5), .val (.ref b2), .unset, .unset, .unset, .unset] [(.int (x3 &&& (65535 : Int32))), (.ref b2), (.ref b47), (.ref b47)]))
    have c52 : ¬ ((x3 &&& (65535 : Int32)) < (0 : Int32)) := by
      have q0 := rng32 x3
      have q1 := c_mask x3 (65535 : Int32) 16 (by decide) (by decide)
      simp only [true_implies, Int32.lt_iff_toInt_lt, ← Int32.toInt_inj, Int32.reduceToInt, Int64.lt_iff_toInt_lt, ← Int64.toInt_inj, Int64.reduceToInt] at q0 q1 ⊢
      omega
    have c53 : ¬ ((65535 : Int32) < (x3 &&& (65535 : Int32))) := by
      have q0 := rng32 x3
      have q1 := c_mask x3 (65535 : Int32) 16 (by decide) (by decide)
      have p0 := c52
      simp only [true_implies, Int32.lt_iff_toInt_lt, ← Int32.toInt_inj, Int32.reduceToInt, Int64.lt_iff_toInt_lt, ← Int64.toInt_inj, Int64.reduceToInt] at q0 q1 p0 ⊢
      omega
    have f55 := (((((((((((((((((f16.other W19 (Nat.ne_of_lt (Nat.lt_of_lt_of_le EA2.lt (Nat.le_of_eq g5.symm)))).other W20 (Nat.ne_of_lt (Nat.lt_of_lt_of_le EA2.lt (Nat.le_of_eq g5.symm)))).other W21 (Nat.ne_of_lt (Nat.lt_of_lt_of_le EA2.lt (Nat.le_of_eq g5.symm)))).other W22 (Nat.ne_of_lt (Nat.lt_of_lt_of_le EA2.lt (Nat.le_of_eq g5.symm)))).other W23 (Nat.ne_of_lt (Nat.lt_of_lt_of_le EA2.lt (Nat.le_of_eq g5.symm)))).other W25 (Nat.ne_of_lt (Nat.lt_of_lt_of_le EA2.lt (Nat.le_of_eq g5.symm)))).other W27 (Nat.ne_of_lt (Nat.lt_of_lt_of_le EA2.lt (Nat.le_of_eq g5.symm)))).other W29 (Nat.ne_of_lt (Nat.lt_of_lt_of_le EA2.lt (Nat.le_of_eq g5.symm)))).other W31 (Nat.ne_of_lt (Nat.lt_of_lt_of_le EA2.lt (Nat.le_of_eq g5.symm)))).other W33 (Nat.ne_of_lt (Nat.lt_of_lt_of_le EA2.lt (Nat.le_of_eq g5.symm)))).other W35 (Nat.ne_of_lt (Nat.lt_of_lt_of_le EA2.lt (Nat.le_of_eq g5.symm)))).other W37 (Nat.ne_of_lt (Nat.lt_of_lt_of_le EA2.lt (Nat.le_of_eq g5.symm)))).other W39 (Nat.ne_of_lt (Nat.lt_of_lt_of_le EA2.lt (Nat.le_of_eq g5.symm)))).other W41 (Nat.ne_of_lt (Nat.lt_of_lt_of_le EA2.lt (Nat.le_of_eq g5.symm)))).other W43 (Nat.ne_of_lt (Nat.lt_of_lt_of_le EA2.lt (Nat.le_of_eq g5.symm)))).other W45 (Nat.ne_of_lt (Nat.lt_of_lt_of_le EA2.lt (Nat.le_of_eq g5.symm)))).ext E47)
    have f56 := ((((((((((((((((((((((EA2.ext E5).wr W10).wr W12).wr W14).wr W16).wr W19).wr W20).wr W21).wr W22).wr W23).wr W25).wr W27).wr W29).wr W31).wr W33).wr W35).wr W37).wr W39).wr W41).wr W43).wr W45).ext E47)
    have Z57 := (Nat.le_trans Z48 E47.1)
    refine own_cp X47 hx hZ hown rfl (hw _ (own_m 5 rfl)) (hw _ (own_m 6 rfl)) (hw _ (own_m 4 rfl)) (hw _ (own_m 7 rfl)) (by decide) (rm := { frames := 1, cells := 1, slots := 4, locals := 15 }) (rm_init_0 l Z a0 hw [] b47 b2 (x3 &&& (65535 : Int32)) ((x1.toInt32).toInt8.toInt32) ((((x1.toUInt64 >>> ((8 : Int32) &&& 0x3f).toInt64.toUInt64).toInt64).toInt32).toInt8.toInt32) ((((x1.toUInt64 >>> ((16 : Int32) &&& 0x3f).toInt64.toUInt64).toInt64).toInt32).toInt8.toInt32) ((((x1.toUInt64 >>> ((24 : Int32) &&& 0x3f).toInt64.toUInt64).toInt64).toInt32).toInt8.toInt32) k2 h47 n0 Z57 f55 f56 A47 f50 f51 ge49 c52 c53) (by decide) (W := 1) (by decide) (by decide) (by decide) e47 (by rw [hml]; rfl) (argsL := [(.ref b2), (.int (x3 &&& (65535 : Int32)))]) (lenOf own_pd0 rfl) (rest := [(.ref b47)]) rfl rfl (Nat.le_of_eq rfl) (hb hby at_254) ?_
    intro _ T54 L54 X54 hQ54
    obtain ⟨b54_0, kb54_0, rfl, N54q, K54, ge54_0, sz54_0, f54_0, f54_1, f54_2, f54_3⟩ := hQ54
    have N54 := Fr.app N45 N54q
    show own_Go p e below _ (T54.setTop (mkF m 257 #[.val (.int x0), .val (.long x1), .second, .val (.long x2), .second, .val (.int x3), .val (.int (0 : Int32)), .val (.int (x3 &&& (65535 : Int32))), .val (.ref b2), .val (.ref b5), .val (.ref b2), .unset, .unset, .unset, .unset] [(.ref b47)]))
    refine own_go (fun _ hr => XS.astore X54.here hx rfl (hb hby at_257) rfl rfl (l' := #[.val (.int x0), .val (.long x1), .second, .val (.long x2), .second, .val (.int x3), .val (.int (0 : Int32)), .val (.int (x3 &&& (65535 : Int32))), .val (.ref b2), .val (.ref b5), .val (.ref b2), .val (.ref b47), .unset, .unset, .unset]) rfl (XS.aload X54.here hx rfl (hb hby at_259) rfl rfl hr)) ?_
    show own_Go p e below _ (T54.setTop (mkF m 261 #[.val (.int x0), .val (.long x1), .second, .val (.long x2), .second, .val (.int x3), .val (.int (0 : Int32)), .val (.int (x3 &&& (65535 : Int32))), .val (.ref b2), .val (.ref b5), .val (.ref b2), .val (.ref b47), .unset, .unset, .unset] [(.ref b47)]))
    have Z59 := (Nat.le_trans Z57 K54.1)
    have f60 := (A47.keep K54)
    refine own_cv X54 hx hZ hown (notFace_of_selects (args := #[]) (mvT hZ (hw _ (own_m 28 rfl)))) (hw _ (own_m 25 rfl)) (hw _ (own_m 26 rfl)) (hw _ (own_m 28 rfl)) (hw _ (own_m 27 rfl)) (hw _ (own_m 4 rfl)) (hw _ (own_m 29 rfl)) (by decide) f60 (rm := { frames := 0, cells := 0, slots := 0, locals := 0 }) (rm_isIpv6_1 l Z a0 hw [] b47 b54_0 ((x1.toInt32).toInt8.toInt32) ((((x1.toUInt64 >>> ((8 : Int32) &&& 0x3f).toInt64.toUInt64).toInt64).toInt32).toInt8.toInt32) ((((x1.toUInt64 >>> ((16 : Int32) &&& 0x3f).toInt64.toUInt64).toInt64).toInt32).toInt8.toInt32) ((((x1.toUInt64 >>> ((24 : Int32) &&& 0x3f).toInt64.toUInt64).toInt64).toInt32).toInt8.toInt32) kb54_0 T54.heap n0 Z59 f54_0 f54_2) (by decide) (W := 0) (by decide) (by decide) (by decide) rfl (by rw [hml]; rfl) (argsL := []) (lenOf own_pd1 rfl) (rest := []) rfl rfl (Nat.le_of_eq rfl) (hb hby at_261) ?_
    intro _ T58 L58 X58 hQ58
    obtain ⟨rfl, N58q, e58⟩ := hQ58
    have N58 := Fr.app N54 N58q
    show own_Go p e below _ (T58.setTop (mkF m 264 #[.val (.int x0), .val (.long x1), .second, .val (.long x2), .second, .val (.int x3), .val (.int (0 : Int32)), .val (.int (x3 &&& (65535 : Int32))), .val (.ref b2), .val (.ref b5), .val (.ref b2), .val (.ref b47), .unset, .unset, .unset] [(.int (0 : Int32))]))
    refine own_go (fun _ hr => XS.istore X58.here hx rfl (hb hby at_264) rfl (l' := #[.val (.int x0), .val (.long x1), .second, .val (.long x2), .second, .val (.int x3), .val (.int (0 : Int32)), .val (.int (x3 &&& (65535 : Int32))), .val (.ref b2), .val (.ref b5), .val (.ref b2), .val (.ref b47), .val (.int (0 : Int32)), .unset, .unset]) rfl (XS.iload X58.here hx rfl (hb hby at_266) rfl (XS.iload X58.here hx rfl (hb hby at_268) rfl (XS.icmpYes X58.here hx rfl (pc0 := 270) (pc' := 275) rfl (hb hby at_270) rfl (teq (by decide)).1 (by decide) (by decide) (XS.iload X58.here hx rfl (hb hby at_275) rfl (XS.ifYes X58.here hx rfl (pc0 := 277) (pc' := 285) rfl (hb hby at_277) rfl ((if0 _ _).trans (teq (by decide)).1) (by decide) (by decide) (XS.bipush X58.here hx rfl (hb hby at_285) (XS.istore X58.here hx rfl (hb hby at_287) rfl (l' := #[.val (.int x0), .val (.long x1), .second, .val (.long x2), .second, .val (.int x3), .val (.int (0 : Int32)), .val (.int (x3 &&& (65535 : Int32))), .val (.ref b2), .val (.ref b5), .val (.ref b2), .val (.ref b47), .val (.int (0 : Int32)), .val (.int (8 : Int32)), .unset]) rfl (XS.aload X58.here hx rfl (hb hby at_289) rfl rfl hr))))))))) ?_
    show own_Go p e below _ (T58.setTop (mkF m 291 #[.val (.int x0), .val (.long x1), .second, .val (.long x2), .second, .val (.int x3), .val (.int (0 : Int32)), .val (.int (x3 &&& (65535 : Int32))), .val (.ref b2), .val (.ref b5), .val (.ref b2), .val (.ref b47), .val (.int (0 : Int32)), .val (.int (8 : Int32)), .unset] [(.ref b47)]))
    refine own_cv X58 hx hZ hown (notFace_of_selects (args := #[]) (mvT hZ (hw _ (own_m 33 rfl)))) (hw _ (own_m 30 rfl)) (hw _ (own_m 31 rfl)) (hw _ (own_m 33 rfl)) (hw _ (own_m 32 rfl)) (hw _ (own_m 4 rfl)) (hw _ (own_m 34 rfl)) (by decide) f60 (rm := { frames := 0, cells := 0, slots := 0, locals := 0 }) (rm_encodedLength_2 l Z a0 hw [] b47 b54_0 ((x1.toInt32).toInt8.toInt32) ((((x1.toUInt64 >>> ((8 : Int32) &&& 0x3f).toInt64.toUInt64).toInt64).toInt32).toInt8.toInt32) ((((x1.toUInt64 >>> ((16 : Int32) &&& 0x3f).toInt64.toUInt64).toInt64).toInt32).toInt8.toInt32) ((((x1.toUInt64 >>> ((24 : Int32) &&& 0x3f).toInt64.toUInt64).toInt64).toInt32).toInt8.toInt32) kb54_0 T54.heap n0 Z59 f54_0 f54_2) (by decide) (W := 0) (by decide) (by decide) (by decide) e58 (by rw [hml]; rfl) (argsL := []) (lenOf own_pd2 rfl) (rest := []) rfl rfl (Nat.le_of_eq rfl) (hb hby at_291) ?_
    intro _ T61 L61 X61 hQ61
    obtain ⟨rfl, N61q, e61⟩ := hQ61
    have N61 := Fr.app N58 N61q
    show own_Go p e below _ (T61.setTop (mkF m 294 #[.val (.int x0), .val (.long x1), .second, .val (.long x2), .second, .val (.int x3), .val (.int (0 : Int32)), .val (.int (x3 &&& (65535 : Int32))), .val (.ref b2), .val (.ref b5), .val (.ref b2), .val (.ref b47), .val (.int (0 : Int32)), .val (.int (8 : Int32)), .unset] [(.int (8 : Int32))]))
    refine own_go (fun _ hr => XS.iload X61.here hx rfl (hb hby at_294) rfl (XS.icmpYes X61.here hx rfl (pc0 := 296) (pc' := 301) rfl (hb hby at_296) rfl (teq (by decide)).1 (by decide) (by decide) (XS.iload X61.here hx rfl (hb hby at_301) rfl (XS.ifYes X61.here hx rfl (pc0 := 303) (pc' := 311) rfl (hb hby at_303) rfl ((if0 _ _).trans (teq (by decide)).1) (by decide) (by decide) (XS.iconst X61.here hx rfl (hb hby at_311) (XS.istore X61.here hx rfl (hb hby at_312) rfl (l' := #[.val (.int x0), .val (.long x1), .second, .val (.long x2), .second, .val (.int x3), .val (.int (0 : Int32)), .val (.int (x3 &&& (65535 : Int32))), .val (.ref b2), .val (.ref b5), .val (.ref b2), .val (.ref b47), .val (.int (0 : Int32)), .val (.int (8 : Int32)), .val (.int (4 : Int32))]) rfl (XS.aload X61.here hx rfl (hb hby at_314) rfl rfl hr))))))) ?_
    show own_Go p e below _ (T61.setTop (mkF m 316 #[.val (.int x0), .val (.long x1), .second, .val (.long x2), .second, .val (.int x3), .val (.int (0 : Int32)), .val (.int (x3 &&& (65535 : Int32))), .val (.ref b2), .val (.ref b5), .val (.ref b2), .val (.ref b47), .val (.int (0 : Int32)), .val (.int (8 : Int32)), .val (.int (4 : Int32))] [(.ref b47)]))
    refine own_cv X61 hx hZ hown (notFace_of_selects (args := #[]) (mvT hZ (hw _ (own_m 38 rfl)))) (hw _ (own_m 35 rfl)) (hw _ (own_m 36 rfl)) (hw _ (own_m 38 rfl)) (hw _ (own_m 37 rfl)) (hw _ (own_m 4 rfl)) (hw _ (own_m 39 rfl)) (by decide) f60 (rm := { frames := 1, cells := 1, slots := 4, locals := 14 }) (rm_getAddress_3 l Z a0 hw [] b47 b54_0 ((x1.toInt32).toInt8.toInt32) ((((x1.toUInt64 >>> ((8 : Int32) &&& 0x3f).toInt64.toUInt64).toInt64).toInt32).toInt8.toInt32) ((((x1.toUInt64 >>> ((16 : Int32) &&& 0x3f).toInt64.toUInt64).toInt64).toInt32).toInt8.toInt32) ((((x1.toUInt64 >>> ((24 : Int32) &&& 0x3f).toInt64.toUInt64).toInt64).toInt32).toInt8.toInt32) kb54_0 T54.heap n0 Z59 f54_0 f54_2 f54_3) (by decide) (W := 0) (by decide) (by decide) (by decide) e61 (by rw [hml]; rfl) (argsL := []) (lenOf own_pd3 rfl) (rest := []) rfl rfl (Nat.le_of_eq rfl) (hb hby at_316) ?_
    intro _ T62 L62 X62 hQ62
    obtain ⟨b62_0, kb62_0, rfl, N62q, K62, ge62_0, sz62_0, f62_0, f62_1⟩ := hQ62
    have N62 := Fr.app N61 N62q
    show own_Go p e below _ (T62.setTop (mkF m 319 #[.val (.int x0), .val (.long x1), .second, .val (.long x2), .second, .val (.int x3), .val (.int (0 : Int32)), .val (.int (x3 &&& (65535 : Int32))), .val (.ref b2), .val (.ref b5), .val (.ref b2), .val (.ref b47), .val (.int (0 : Int32)), .val (.int (8 : Int32)), .val (.int (4 : Int32))] [(.ref b62_0)]))
    refine own_go (fun _ hr => own_alen X62 hx hZ rfl f62_0 rfl rfl (hb hby at_319) (XS.iload X62.here hx rfl (hb hby at_320) rfl (XS.icmpYes X62.here hx rfl (pc0 := 322) (pc' := 327) rfl (hb hby at_322) rfl (teq (by decide)).1 (by decide) (by decide) (XS.aload X62.here hx rfl (hb hby at_327) rfl rfl hr)))) ?_
    show own_Go p e below _ (T62.setTop (mkF m 329 #[.val (.int x0), .val (.long x1), .second, .val (.long x2), .second, .val (.int x3), .val (.int (0 : Int32)), .val (.int (x3 &&& (65535 : Int32))), .val (.ref b2), .val (.ref b5), .val (.ref b2), .val (.ref b47), .val (.int (0 : Int32)), .val (.int (8 : Int32)), .val (.int (4 : Int32))] [(.ref b47)]))
    have f64 := (f54_0.keep K62 nin0)
    have f65 := (f54_2.keep K62 nin0)
    have Z66 := (Nat.le_trans Z59 K62.1)
    have f67 := (f60.keep K62)
    refine own_cv X62 hx hZ hown (notFace_of_selects (args := #[]) (mvT hZ (hw _ (own_m 28 rfl)))) (hw _ (own_m 25 rfl)) (hw _ (own_m 26 rfl)) (hw _ (own_m 28 rfl)) (hw _ (own_m 27 rfl)) (hw _ (own_m 4 rfl)) (hw _ (own_m 29 rfl)) (by decide) f67 (rm := { frames := 0, cells := 0, slots := 0, locals := 0 }) (rm_isIpv6_1 l Z a0 hw [] b47 b54_0 ((x1.toInt32).toInt8.toInt32) ((((x1.toUInt64 >>> ((8 : Int32) &&& 0x3f).toInt64.toUInt64).toInt64).toInt32).toInt8.toInt32) ((((x1.toUInt64 >>> ((16 : Int32) &&& 0x3f).toInt64.toUInt64).toInt64).toInt32).toInt8.toInt32) ((((x1.toUInt64 >>> ((24 : Int32) &&& 0x3f).toInt64.toUInt64).toInt64).toInt32).toInt8.toInt32) kb54_0 T62.heap n0 Z66 f64 f65) (by decide) (W := 0) (by decide) (by decide) (by decide) rfl (by rw [hml]; rfl) (argsL := []) (lenOf own_pd1 rfl) (rest := []) rfl rfl (Nat.le_of_eq rfl) (hb hby at_329) ?_
    intro _ T63 L63 X63 hQ63
    obtain ⟨rfl, N63q, e63⟩ := hQ63
    have N63 := Fr.app N62 N63q
    show own_Go p e below _ (T63.setTop (mkF m 332 #[.val (.int x0), .val (.long x1), .second, .val (.long x2), .second, .val (.int x3), .val (.int (0 : Int32)), .val (.int (x3 &&& (65535 : Int32))), .val (.ref b2), .val (.ref b5), .val (.ref b2), .val (.ref b47), .val (.int (0 : Int32)), .val (.int (8 : Int32)), .val (.int (4 : Int32))] [(.int (0 : Int32))]))
    refine own_go (fun _ hr => XS.iload X63.here hx rfl (hb hby at_332) rfl (XS.icmpNo X63.here hx rfl (hb hby at_334) rfl (teq (by decide)).2 (XS.iconst X63.here hx rfl (hb hby at_337) (XS.goto X63.here hx rfl (pc0 := 338) (pc' := 342) rfl (hb hby at_338) (by decide) (by decide) hr)))) ?_
    show own_Go p e below _ (T63.setTop (mkF m 342 #[.val (.int x0), .val (.long x1), .second, .val (.long x2), .second, .val (.int x3), .val (.int (0 : Int32)), .val (.int (x3 &&& (65535 : Int32))), .val (.ref b2), .val (.ref b5), .val (.ref b2), .val (.ref b47), .val (.int (0 : Int32)), .val (.int (8 : Int32)), .val (.int (4 : Int32))] [(.int (1 : Int32))]))
    exact own_retN X63 hx hlk Bd.returns (t := .boolean) (by simp) (hb hby at_342) (by decide) (by decide) ⟨rfl, N63⟩
  refine own_go (fun _ hr => XS.ifNo X0.here hx rfl (hb hby at_3) rfl ((if0 _ _).trans (feq c1).1) hr) ?_
  show own_Go p e below _ (s₁.setTop (mkF m 6 #[.val (.int x0), .val (.long x1), .second, .val (.long x2), .second, .val (.int x3), .unset, .unset, .unset, .unset, .unset, .unset, .unset, .unset, .unset] []))
  refine own_go (fun _ hr => XS.iconst X0.here hx rfl (hb hby at_6) (XS.goto X0.here hx rfl (pc0 := 7) (pc' := 11) rfl (hb hby at_7) (by decide) (by decide) (XS.istore X0.here hx rfl (hb hby at_11) rfl (l' := #[.val (.int x0), .val (.long x1), .second, .val (.long x2), .second, .val (.int x3), .val (.int (1 : Int32)), .unset, .unset, .unset, .unset, .unset, .unset, .unset, .unset]) rfl (XS.iload X0.here hx rfl (hb hby at_13) rfl hr)))) ?_
  show own_Go p e below _ (s₁.setTop (mkF m 15 #[.val (.int x0), .val (.long x1), .second, .val (.long x2), .second, .val (.int x3), .val (.int (1 : Int32)), .unset, .unset, .unset, .unset, .unset, .unset, .unset, .unset] [(.int x3)]))
  refine own_go (X0.ldcInt hx hown (mvT hZ (hw _ (own_m 0 rfl))) rfl (hb hby at_15)) ?_
  show own_Go p e below _ (s₁.setTop (mkF m 17 #[.val (.int x0), .val (.long x1), .second, .val (.long x2), .second, .val (.int x3), .val (.int (1 : Int32)), .unset, .unset, .unset, .unset, .unset, .unset, .unset, .unset] [(.int (65535 : Int32)), (.int x3)]))
  refine own_go (fun _ hr => XS.iand X0.here hx rfl (hb hby at_17) rfl (XS.istore X0.here hx rfl (hb hby at_18) rfl (l' := #[.val (.int x0), .val (.long x1), .second, .val (.long x2), .second, .val (.int x3), .val (.int (1 : Int32)), .val (.int (x3 &&& (65535 : Int32))), .unset, .unset, .unset, .unset, .unset, .unset, .unset]) rfl (XS.iconst X0.here hx rfl (hb hby at_20) hr))) ?_
  show own_Go p e below _ (s₁.setTop (mkF m 21 #[.val (.int x0), .val (.long x1), .second, .val (.long x2), .second, .val (.int x3), .val (.int (1 : Int32)), .val (.int (x3 &&& (65535 : Int32))), .unset, .unset, .unset, .unset, .unset, .unset, .unset] [(.int (4 : Int32))]))
  obtain ⟨T68, h68, k68, X68, e68, E68, A68, EA68, st68⟩ := newPE X0 hx hZ (hw _ (own_m 1 rfl)) e0 (g := (mkF m 21 #[.val (.int x0), .val (.long x1), .second, .val (.long x2), .second, .val (.int x3), .val (.int (1 : Int32)), .val (.int (x3 &&& (65535 : Int32))), .unset, .unset, .unset, .unset, .unset, .unset, .unset] [(.int (4 : Int32))])) rfl (hb hby at_21) rfl (by decide) (cap := 4) (by decide) (by decide) (by decide) (by decide) (ad := "[B") (by decide)
  obtain ⟨b68, g68⟩ : ∃ z, z = h0.size := ⟨_, rfl⟩
  rw [← g68] at A68 EA68 st68
  have ge69 : n0 ≤ b68 := Nat.le_trans Z0 (Nat.le_of_eq g68.symm)
  refine own_go st68 ?_
  have f70 : Arv Z h68 b68 k68 .byte (4 : Int32) [(.int (0 : Int32)), (.int (0 : Int32)), (.int (0 : Int32)), (.int (0 : Int32))] (.int (0 : Int32)) := (Arv.new A68 (by decide)).pad (pad_rep [] (.int (0 : Int32)) 4)
  show own_Go p e below _ (T68.setTop (mkF m 23 #[.val (.int x0), .val (.long x1), .second, .val (.long x2), .second, .val (.int x3), .val (.int (1 : Int32)), .val (.int (x3 &&& (65535 : Int32))), .unset, .unset, .unset, .unset, .unset, .unset, .unset] [(.ref b68)]))
  refine own_go (fun _ hr => XS.astore X68.here hx rfl (hb hby at_23) rfl rfl (l' := #[.val (.int x0), .val (.long x1), .second, .val (.long x2), .second, .val (.int x3), .val (.int (1 : Int32)), .val (.int (x3 &&& (65535 : Int32))), .val (.ref b68), .unset, .unset, .unset, .unset, .unset, .unset]) rfl (XS.bipush X68.here hx rfl (hb hby at_25) hr)) ?_
  show own_Go p e below _ (T68.setTop (mkF m 27 #[.val (.int x0), .val (.long x1), .second, .val (.long x2), .second, .val (.int x3), .val (.int (1 : Int32)), .val (.int (x3 &&& (65535 : Int32))), .val (.ref b68), .unset, .unset, .unset, .unset, .unset, .unset] [(.int (16 : Int32))]))
  obtain ⟨T71, h71, k71, X71, e71, E71, A71, EA71, st71⟩ := newPE X68 hx hZ (hw _ (own_m 1 rfl)) e68 (g := (mkF m 27 #[.val (.int x0), .val (.long x1), .second, .val (.long x2), .second, .val (.int x3), .val (.int (1 : Int32)), .val (.int (x3 &&& (65535 : Int32))), .val (.ref b68), .unset, .unset, .unset, .unset, .unset, .unset] [(.int (16 : Int32))])) rfl (hb hby at_27) rfl (by decide) (cap := 16) (by decide) (by decide) (by decide) (by decide) (ad := "[B") (by decide)
  obtain ⟨b71, g71⟩ : ∃ z, z = h68.size := ⟨_, rfl⟩
  rw [← g71] at A71 EA71 st71
  have Z72 := (Nat.le_trans Z0 E68.1)
  have ge73 : n0 ≤ b71 := Nat.le_trans Z72 (Nat.le_of_eq g71.symm)
  refine own_go st71 ?_
  have f74 : Arv Z h71 b71 k71 .byte (16 : Int32) [(.int (0 : Int32)), (.int (0 : Int32)), (.int (0 : Int32)), (.int (0 : Int32)), (.int (0 : Int32)), (.int (0 : Int32)), (.int (0 : Int32)), (.int (0 : Int32)), (.int (0 : Int32)), (.int (0 : Int32)), (.int (0 : Int32)), (.int (0 : Int32)), (.int (0 : Int32)), (.int (0 : Int32)), (.int (0 : Int32)), (.int (0 : Int32))] (.int (0 : Int32)) := (Arv.new A71 (by decide)).pad (pad_rep [] (.int (0 : Int32)) 16)
  show own_Go p e below _ (T71.setTop (mkF m 29 #[.val (.int x0), .val (.long x1), .second, .val (.long x2), .second, .val (.int x3), .val (.int (1 : Int32)), .val (.int (x3 &&& (65535 : Int32))), .val (.ref b68), .unset, .unset, .unset, .unset, .unset, .unset] [(.ref b71)]))
  refine own_go (fun _ hr => XS.astore X71.here hx rfl (hb hby at_29) rfl rfl (l' := #[.val (.int x0), .val (.long x1), .second, .val (.long x2), .second, .val (.int x3), .val (.int (1 : Int32)), .val (.int (x3 &&& (65535 : Int32))), .val (.ref b68), .val (.ref b71), .unset, .unset, .unset, .unset, .unset]) rfl (XS.aload X71.here hx rfl (hb hby at_31) rfl rfl (XS.iconst X71.here hx rfl (hb hby at_33) (XS.lloadN X71.here hx rfl (hb hby at_34) rfl (XS.l2i X71.here hx rfl (hb hby at_35) rfl (XS.i2b X71.here hx rfl (hb hby at_36) rfl hr)))))) ?_
  show own_Go p e below _ (T71.setTop (mkF m 37 #[.val (.int x0), .val (.long x1), .second, .val (.long x2), .second, .val (.int x3), .val (.int (1 : Int32)), .val (.int (x3 &&& (65535 : Int32))), .val (.ref b68), .val (.ref b71), .unset, .unset, .unset, .unset, .unset] [(.int ((x1.toInt32).toInt8.toInt32)), (.int (0 : Int32)), (.ref b68)]))
  have f75 := (f70.ext E71)
  have c77 : (nar .byte ((x1.toInt32).toInt8.toInt32)) = ((x1.toInt32).toInt8.toInt32) := by
    have q0 := rng64 x1
    have q1 := c_l2i x1
    have q2 := c_i2b (x1.toInt32)
    have q3 := (show ((nar .byte ((x1.toInt32).toInt8.toInt32)).toInt - ((x1.toInt32).toInt8.toInt32).toInt) % 256 = 0 ∧ -128 ≤ (nar .byte ((x1.toInt32).toInt8.toInt32)).toInt ∧ (nar .byte ((x1.toInt32).toInt8.toInt32)).toInt < 128 from c_i2b ((x1.toInt32).toInt8.toInt32))
    simp only [true_implies, Int32.lt_iff_toInt_lt, ← Int32.toInt_inj, Int32.reduceToInt, Int64.lt_iff_toInt_lt, ← Int64.toInt_inj, Int64.reduceToInt] at q0 q1 q2 q3 ⊢
    omega
  refine own_stB X71 hx hZ e71 f75 (0 : Int32) ((x1.toInt32).toInt8.toInt32) ((x1.toInt32).toInt8.toInt32) 0 ⟨by decide, by decide⟩ rfl (Nat.le_of_ble_eq_true rfl) c77 [(.int ((x1.toInt32).toInt8.toInt32)), (.int (0 : Int32)), (.int (0 : Int32)), (.int (0 : Int32))] rfl N0 ge69 (hb hby at_37) ?_
  intro T76 h76 L76 X76 e76 W76 N76 f76
  show own_Go p e below _ (T76.setTop (mkF m 38 #[.val (.int x0), .val (.long x1), .second, .val (.long x2), .second, .val (.int x3), .val (.int (1 : Int32)), .val (.int (x3 &&& (65535 : Int32))), .val (.ref b68), .val (.ref b71), .unset, .unset, .unset, .unset, .unset] []))
  refine own_go (fun _ hr => XS.aload X76.here hx rfl (hb hby at_38) rfl rfl (XS.iconst X76.here hx rfl (hb hby at_40) (XS.lloadN X76.here hx rfl (hb hby at_41) rfl (XS.bipush X76.here hx rfl (hb hby at_42) (XS.lushr X76.here hx rfl (hb hby at_44) rfl (XS.l2i X76.here hx rfl (hb hby at_45) rfl (XS.i2b X76.here hx rfl (hb hby at_46) rfl hr))))))) ?_
  show own_Go p e below _ (T76.setTop (mkF m 47 #[.val (.int x0), .val (.long x1), .second, .val (.long x2), .second, .val (.int x3), .val (.int (1 : Int32)), .val (.int (x3 &&& (65535 : Int32))), .val (.ref b68), .val (.ref b71), .unset, .unset, .unset, .unset, .unset] [(.int ((((x1.toUInt64 >>> ((8 : Int32) &&& 0x3f).toInt64.toUInt64).toInt64).toInt32).toInt8.toInt32)), (.int (1 : Int32)), (.ref b68)]))
  have c79 : (nar .byte ((((x1.toUInt64 >>> ((8 : Int32) &&& 0x3f).toInt64.toUInt64).toInt64).toInt32).toInt8.toInt32)) = ((((x1.toUInt64 >>> ((8 : Int32) &&& 0x3f).toInt64.toUInt64).toInt64).toInt32).toInt8.toInt32) := by
    have q0 := rng64 x1
    have q1 := c_l2i x1
    have q2 := c_i2b (x1.toInt32)
    have q3 := (show ((nar .byte ((x1.toInt32).toInt8.toInt32)).toInt - ((x1.toInt32).toInt8.toInt32).toInt) % 256 = 0 ∧ -128 ≤ (nar .byte ((x1.toInt32).toInt8.toInt32)).toInt ∧ (nar .byte ((x1.toInt32).toInt8.toInt32)).toInt < 128 from c_i2b ((x1.toInt32).toInt8.toInt32))
    have q4 := c_lushr x1 (8 : Int32) 8 (by decide) (by decide)
    have q5 := c_l2i ((x1.toUInt64 >>> ((8 : Int32) &&& 0x3f).toInt64.toUInt64).toInt64)
    have q6 := c_i2b (((x1.toUInt64 >>> ((8 : Int32) &&& 0x3f).toInt64.toUInt64).toInt64).toInt32)
    have q7 := (show ((nar .byte ((((x1.toUInt64 >>> ((8 : Int32) &&& 0x3f).toInt64.toUInt64).toInt64).toInt32).toInt8.toInt32)).toInt - ((((x1.toUInt64 >>> ((8 : Int32) &&& 0x3f).toInt64.toUInt64).toInt64).toInt32).toInt8.toInt32).toInt) % 256 = 0 ∧ -128 ≤ (nar .byte ((((x1.toUInt64 >>> ((8 : Int32) &&& 0x3f).toInt64.toUInt64).toInt64).toInt32).toInt8.toInt32)).toInt ∧ (nar .byte ((((x1.toUInt64 >>> ((8 : Int32) &&& 0x3f).toInt64.toUInt64).toInt64).toInt32).toInt8.toInt32)).toInt < 128 from c_i2b ((((x1.toUInt64 >>> ((8 : Int32) &&& 0x3f).toInt64.toUInt64).toInt64).toInt32).toInt8.toInt32))
    have p0 := c77
    simp only [true_implies, Int32.lt_iff_toInt_lt, ← Int32.toInt_inj, Int32.reduceToInt, Int64.lt_iff_toInt_lt, ← Int64.toInt_inj, Int64.reduceToInt] at q0 q1 q2 q3 q4 q5 q6 q7 p0 ⊢
    omega
  refine own_stB X76 hx hZ e76 f76 (1 : Int32) ((((x1.toUInt64 >>> ((8 : Int32) &&& 0x3f).toInt64.toUInt64).toInt64).toInt32).toInt8.toInt32) ((((x1.toUInt64 >>> ((8 : Int32) &&& 0x3f).toInt64.toUInt64).toInt64).toInt32).toInt8.toInt32) 1 ⟨by decide, by decide⟩ rfl (Nat.le_of_ble_eq_true rfl) c79 [(.int ((x1.toInt32).toInt8.toInt32)), (.int ((((x1.toUInt64 >>> ((8 : Int32) &&& 0x3f).toInt64.toUInt64).toInt64).toInt32).toInt8.toInt32)), (.int (0 : Int32)), (.int (0 : Int32))] rfl N76 ge69 (hb hby at_47) ?_
  intro T78 h78 L78 X78 e78 W78 N78 f78
  show own_Go p e below _ (T78.setTop (mkF m 48 #[.val (.int x0), .val (.long x1), .second, .val (.long x2), .second, .val (.int x3), .val (.int (1 : Int32)), .val (.int (x3 &&& (65535 : Int32))), .val (.ref b68), .val (.ref b71), .unset, .unset, .unset, .unset, .unset] []))
  refine own_go (fun _ hr => XS.aload X78.here hx rfl (hb hby at_48) rfl rfl (XS.iconst X78.here hx rfl (hb hby at_50) (XS.lloadN X78.here hx rfl (hb hby at_51) rfl (XS.bipush X78.here hx rfl (hb hby at_52) (XS.lushr X78.here hx rfl (hb hby at_54) rfl (XS.l2i X78.here hx rfl (hb hby at_55) rfl (XS.i2b X78.here hx rfl (hb hby at_56) rfl hr))))))) ?_
  show own_Go p e below _ (T78.setTop (mkF m 57 #[.val (.int x0), .val (.long x1), .second, .val (.long x2), .second, .val (.int x3), .val (.int (1 : Int32)), .val (.int (x3 &&& (65535 : Int32))), .val (.ref b68), .val (.ref b71), .unset, .unset, .unset, .unset, .unset] [(.int ((((x1.toUInt64 >>> ((16 : Int32) &&& 0x3f).toInt64.toUInt64).toInt64).toInt32).toInt8.toInt32)), (.int (2 : Int32)), (.ref b68)]))
  have c81 : (nar .byte ((((x1.toUInt64 >>> ((16 : Int32) &&& 0x3f).toInt64.toUInt64).toInt64).toInt32).toInt8.toInt32)) = ((((x1.toUInt64 >>> ((16 : Int32) &&& 0x3f).toInt64.toUInt64).toInt64).toInt32).toInt8.toInt32) := by
    have q0 := rng64 x1
    have q1 := c_l2i x1
    have q2 := c_i2b (x1.toInt32)
    have q3 := (show ((nar .byte ((x1.toInt32).toInt8.toInt32)).toInt - ((x1.toInt32).toInt8.toInt32).toInt) % 256 = 0 ∧ -128 ≤ (nar .byte ((x1.toInt32).toInt8.toInt32)).toInt ∧ (nar .byte ((x1.toInt32).toInt8.toInt32)).toInt < 128 from c_i2b ((x1.toInt32).toInt8.toInt32))
    have q4 := c_lushr x1 (8 : Int32) 8 (by decide) (by decide)
    have q5 := c_l2i ((x1.toUInt64 >>> ((8 : Int32) &&& 0x3f).toInt64.toUInt64).toInt64)
    have q6 := c_i2b (((x1.toUInt64 >>> ((8 : Int32) &&& 0x3f).toInt64.toUInt64).toInt64).toInt32)
    have q7 := (show ((nar .byte ((((x1.toUInt64 >>> ((8 : Int32) &&& 0x3f).toInt64.toUInt64).toInt64).toInt32).toInt8.toInt32)).toInt - ((((x1.toUInt64 >>> ((8 : Int32) &&& 0x3f).toInt64.toUInt64).toInt64).toInt32).toInt8.toInt32).toInt) % 256 = 0 ∧ -128 ≤ (nar .byte ((((x1.toUInt64 >>> ((8 : Int32) &&& 0x3f).toInt64.toUInt64).toInt64).toInt32).toInt8.toInt32)).toInt ∧ (nar .byte ((((x1.toUInt64 >>> ((8 : Int32) &&& 0x3f).toInt64.toUInt64).toInt64).toInt32).toInt8.toInt32)).toInt < 128 from c_i2b ((((x1.toUInt64 >>> ((8 : Int32) &&& 0x3f).toInt64.toUInt64).toInt64).toInt32).toInt8.toInt32))
    have q8 := c_lushr x1 (16 : Int32) 16 (by decide) (by decide)
    have q9 := c_l2i ((x1.toUInt64 >>> ((16 : Int32) &&& 0x3f).toInt64.toUInt64).toInt64)
    have q10 := c_i2b (((x1.toUInt64 >>> ((16 : Int32) &&& 0x3f).toInt64.toUInt64).toInt64).toInt32)
    have q11 := (show ((nar .byte ((((x1.toUInt64 >>> ((16 : Int32) &&& 0x3f).toInt64.toUInt64).toInt64).toInt32).toInt8.toInt32)).toInt - ((((x1.toUInt64 >>> ((16 : Int32) &&& 0x3f).toInt64.toUInt64).toInt64).toInt32).toInt8.toInt32).toInt) % 256 = 0 ∧ -128 ≤ (nar .byte ((((x1.toUInt64 >>> ((16 : Int32) &&& 0x3f).toInt64.toUInt64).toInt64).toInt32).toInt8.toInt32)).toInt ∧ (nar .byte ((((x1.toUInt64 >>> ((16 : Int32) &&& 0x3f).toInt64.toUInt64).toInt64).toInt32).toInt8.toInt32)).toInt < 128 from c_i2b ((((x1.toUInt64 >>> ((16 : Int32) &&& 0x3f).toInt64.toUInt64).toInt64).toInt32).toInt8.toInt32))
    have p0 := c77
    have p1 := c79
    simp only [true_implies, Int32.lt_iff_toInt_lt, ← Int32.toInt_inj, Int32.reduceToInt, Int64.lt_iff_toInt_lt, ← Int64.toInt_inj, Int64.reduceToInt] at q0 q1 q2 q3 q4 q5 q6 q7 q8 q9 q10 q11 p0 p1 ⊢
    omega
  refine own_stB X78 hx hZ e78 f78 (2 : Int32) ((((x1.toUInt64 >>> ((16 : Int32) &&& 0x3f).toInt64.toUInt64).toInt64).toInt32).toInt8.toInt32) ((((x1.toUInt64 >>> ((16 : Int32) &&& 0x3f).toInt64.toUInt64).toInt64).toInt32).toInt8.toInt32) 2 ⟨by decide, by decide⟩ rfl (Nat.le_of_ble_eq_true rfl) c81 [(.int ((x1.toInt32).toInt8.toInt32)), (.int ((((x1.toUInt64 >>> ((8 : Int32) &&& 0x3f).toInt64.toUInt64).toInt64).toInt32).toInt8.toInt32)), (.int ((((x1.toUInt64 >>> ((16 : Int32) &&& 0x3f).toInt64.toUInt64).toInt64).toInt32).toInt8.toInt32)), (.int (0 : Int32))] rfl N78 ge69 (hb hby at_57) ?_
  intro T80 h80 L80 X80 e80 W80 N80 f80
  show own_Go p e below _ (T80.setTop (mkF m 58 #[.val (.int x0), .val (.long x1), .second, .val (.long x2), .second, .val (.int x3), .val (.int (1 : Int32)), .val (.int (x3 &&& (65535 : Int32))), .val (.ref b68), .val (.ref b71), .unset, .unset, .unset, .unset, .unset] []))
  refine own_go (fun _ hr => XS.aload X80.here hx rfl (hb hby at_58) rfl rfl (XS.iconst X80.here hx rfl (hb hby at_60) (XS.lloadN X80.here hx rfl (hb hby at_61) rfl (XS.bipush X80.here hx rfl (hb hby at_62) (XS.lushr X80.here hx rfl (hb hby at_64) rfl (XS.l2i X80.here hx rfl (hb hby at_65) rfl (XS.i2b X80.here hx rfl (hb hby at_66) rfl hr))))))) ?_
  show own_Go p e below _ (T80.setTop (mkF m 67 #[.val (.int x0), .val (.long x1), .second, .val (.long x2), .second, .val (.int x3), .val (.int (1 : Int32)), .val (.int (x3 &&& (65535 : Int32))), .val (.ref b68), .val (.ref b71), .unset, .unset, .unset, .unset, .unset] [(.int ((((x1.toUInt64 >>> ((24 : Int32) &&& 0x3f).toInt64.toUInt64).toInt64).toInt32).toInt8.toInt32)), (.int (3 : Int32)), (.ref b68)]))
  have c83 : (nar .byte ((((x1.toUInt64 >>> ((24 : Int32) &&& 0x3f).toInt64.toUInt64).toInt64).toInt32).toInt8.toInt32)) = ((((x1.toUInt64 >>> ((24 : Int32) &&& 0x3f).toInt64.toUInt64).toInt64).toInt32).toInt8.toInt32) := by
    have q0 := rng64 x1
    have q1 := c_l2i x1
    have q2 := c_i2b (x1.toInt32)
    have q3 := (show ((nar .byte ((x1.toInt32).toInt8.toInt32)).toInt - ((x1.toInt32).toInt8.toInt32).toInt) % 256 = 0 ∧ -128 ≤ (nar .byte ((x1.toInt32).toInt8.toInt32)).toInt ∧ (nar .byte ((x1.toInt32).toInt8.toInt32)).toInt < 128 from c_i2b ((x1.toInt32).toInt8.toInt32))
    have q4 := c_lushr x1 (8 : Int32) 8 (by decide) (by decide)
    have q5 := c_l2i ((x1.toUInt64 >>> ((8 : Int32) &&& 0x3f).toInt64.toUInt64).toInt64)
    have q6 := c_i2b (((x1.toUInt64 >>> ((8 : Int32) &&& 0x3f).toInt64.toUInt64).toInt64).toInt32)
    have q7 := (show ((nar .byte ((((x1.toUInt64 >>> ((8 : Int32) &&& 0x3f).toInt64.toUInt64).toInt64).toInt32).toInt8.toInt32)).toInt - ((((x1.toUInt64 >>> ((8 : Int32) &&& 0x3f).toInt64.toUInt64).toInt64).toInt32).toInt8.toInt32).toInt) % 256 = 0 ∧ -128 ≤ (nar .byte ((((x1.toUInt64 >>> ((8 : Int32) &&& 0x3f).toInt64.toUInt64).toInt64).toInt32).toInt8.toInt32)).toInt ∧ (nar .byte ((((x1.toUInt64 >>> ((8 : Int32) &&& 0x3f).toInt64.toUInt64).toInt64).toInt32).toInt8.toInt32)).toInt < 128 from c_i2b ((((x1.toUInt64 >>> ((8 : Int32) &&& 0x3f).toInt64.toUInt64).toInt64).toInt32).toInt8.toInt32))
    have q8 := c_lushr x1 (16 : Int32) 16 (by decide) (by decide)
    have q9 := c_l2i ((x1.toUInt64 >>> ((16 : Int32) &&& 0x3f).toInt64.toUInt64).toInt64)
    have q10 := c_i2b (((x1.toUInt64 >>> ((16 : Int32) &&& 0x3f).toInt64.toUInt64).toInt64).toInt32)
    have q11 := (show ((nar .byte ((((x1.toUInt64 >>> ((16 : Int32) &&& 0x3f).toInt64.toUInt64).toInt64).toInt32).toInt8.toInt32)).toInt - ((((x1.toUInt64 >>> ((16 : Int32) &&& 0x3f).toInt64.toUInt64).toInt64).toInt32).toInt8.toInt32).toInt) % 256 = 0 ∧ -128 ≤ (nar .byte ((((x1.toUInt64 >>> ((16 : Int32) &&& 0x3f).toInt64.toUInt64).toInt64).toInt32).toInt8.toInt32)).toInt ∧ (nar .byte ((((x1.toUInt64 >>> ((16 : Int32) &&& 0x3f).toInt64.toUInt64).toInt64).toInt32).toInt8.toInt32)).toInt < 128 from c_i2b ((((x1.toUInt64 >>> ((16 : Int32) &&& 0x3f).toInt64.toUInt64).toInt64).toInt32).toInt8.toInt32))
    have q12 := c_lushr x1 (24 : Int32) 24 (by decide) (by decide)
    have q13 := c_l2i ((x1.toUInt64 >>> ((24 : Int32) &&& 0x3f).toInt64.toUInt64).toInt64)
    have q14 := c_i2b (((x1.toUInt64 >>> ((24 : Int32) &&& 0x3f).toInt64.toUInt64).toInt64).toInt32)
    have q15 := (show ((nar .byte ((((x1.toUInt64 >>> ((24 : Int32) &&& 0x3f).toInt64.toUInt64).toInt64).toInt32).toInt8.toInt32)).toInt - ((((x1.toUInt64 >>> ((24 : Int32) &&& 0x3f).toInt64.toUInt64).toInt64).toInt32).toInt8.toInt32).toInt) % 256 = 0 ∧ -128 ≤ (nar .byte ((((x1.toUInt64 >>> ((24 : Int32) &&& 0x3f).toInt64.toUInt64).toInt64).toInt32).toInt8.toInt32)).toInt ∧ (nar .byte ((((x1.toUInt64 >>> ((24 : Int32) &&& 0x3f).toInt64.toUInt64).toInt64).toInt32).toInt8.toInt32)).toInt < 128 from c_i2b ((((x1.toUInt64 >>> ((24 : Int32) &&& 0x3f).toInt64.toUInt64).toInt64).toInt32).toInt8.toInt32))
    have p0 := c77
    have p1 := c79
    have p2 := c81
    simp only [true_implies, Int32.lt_iff_toInt_lt, ← Int32.toInt_inj, Int32.reduceToInt, Int64.lt_iff_toInt_lt, ← Int64.toInt_inj, Int64.reduceToInt] at q0 q1 q2 q3 q4 q5 q6 q7 q8 q9 q10 q11 q12 q13 q14 q15 p0 p1 p2 ⊢
    omega
  refine own_stB X80 hx hZ e80 f80 (3 : Int32) ((((x1.toUInt64 >>> ((24 : Int32) &&& 0x3f).toInt64.toUInt64).toInt64).toInt32).toInt8.toInt32) ((((x1.toUInt64 >>> ((24 : Int32) &&& 0x3f).toInt64.toUInt64).toInt64).toInt32).toInt8.toInt32) 3 ⟨by decide, by decide⟩ rfl (Nat.le_of_ble_eq_true rfl) c83 [(.int ((x1.toInt32).toInt8.toInt32)), (.int ((((x1.toUInt64 >>> ((8 : Int32) &&& 0x3f).toInt64.toUInt64).toInt64).toInt32).toInt8.toInt32)), (.int ((((x1.toUInt64 >>> ((16 : Int32) &&& 0x3f).toInt64.toUInt64).toInt64).toInt32).toInt8.toInt32)), (.int ((((x1.toUInt64 >>> ((24 : Int32) &&& 0x3f).toInt64.toUInt64).toInt64).toInt32).toInt8.toInt32))] rfl N80 ge69 (hb hby at_67) ?_
  intro T82 h82 L82 X82 e82 W82 N82 f82
  show own_Go p e below _ (T82.setTop (mkF m 68 #[.val (.int x0), .val (.long x1), .second, .val (.long x2), .second, .val (.int x3), .val (.int (1 : Int32)), .val (.int (x3 &&& (65535 : Int32))), .val (.ref b68), .val (.ref b71), .unset, .unset, .unset, .unset, .unset] []))
  refine own_go (fun _ hr => XS.aload X82.here hx rfl (hb hby at_68) rfl rfl (XS.iconst X82.here hx rfl (hb hby at_70) (XS.lloadN X82.here hx rfl (hb hby at_71) rfl (XS.l2i X82.here hx rfl (hb hby at_72) rfl (XS.i2b X82.here hx rfl (hb hby at_73) rfl hr))))) ?_
  show own_Go p e below _ (T82.setTop (mkF m 74 #[.val (.int x0), .val (.long x1), .second, .val (.long x2), .second, .val (.int x3), .val (.int (1 : Int32)), .val (.int (x3 &&& (65535 : Int32))), .val (.ref b68), .val (.ref b71), .unset, .unset, .unset, .unset, .unset] [(.int ((x1.toInt32).toInt8.toInt32)), (.int (0 : Int32)), (.ref b71)]))
  have f84 := ((((f74.other W76 (Ne.symm (Nat.ne_of_lt (Nat.lt_of_lt_of_le EA68.lt (Nat.le_of_eq g71.symm))))).other W78 (Ne.symm (Nat.ne_of_lt (Nat.lt_of_lt_of_le EA68.lt (Nat.le_of_eq g71.symm))))).other W80 (Ne.symm (Nat.ne_of_lt (Nat.lt_of_lt_of_le EA68.lt (Nat.le_of_eq g71.symm))))).other W82 (Ne.symm (Nat.ne_of_lt (Nat.lt_of_lt_of_le EA68.lt (Nat.le_of_eq g71.symm)))))
  refine own_stB X82 hx hZ e82 f84 (0 : Int32) ((x1.toInt32).toInt8.toInt32) ((x1.toInt32).toInt8.toInt32) 0 ⟨by decide, by decide⟩ rfl (Nat.le_of_ble_eq_true rfl) c77 [(.int ((x1.toInt32).toInt8.toInt32)), (.int (0 : Int32)), (.int (0 : Int32)), (.int (0 : Int32)), (.int (0 : Int32)), (.int (0 : Int32)), (.int (0 : Int32)), (.int (0 : Int32)), (.int (0 : Int32)), (.int (0 : Int32)), (.int (0 : Int32)), (.int (0 : Int32)), (.int (0 : Int32)), (.int (0 : Int32)), (.int (0 : Int32)), (.int (0 : Int32))] rfl N82 ge73 (hb hby at_74) ?_
  intro T85 h85 L85 X85 e85 W85 N85 f85
  show own_Go p e below _ (T85.setTop (mkF m 75 #[.val (.int x0), .val (.long x1), .second, .val (.long x2), .second, .val (.int x3), .val (.int (1 : Int32)), .val (.int (x3 &&& (65535 : Int32))), .val (.ref b68), .val (.ref b71), .unset, .unset, .unset, .unset, .unset] []))
  refine own_go (fun _ hr => XS.aload X85.here hx rfl (hb hby at_75) rfl rfl (XS.iconst X85.here hx rfl (hb hby at_77) (XS.lloadN X85.here hx rfl (hb hby at_78) rfl (XS.bipush X85.here hx rfl (hb hby at_79) (XS.lushr X85.here hx rfl (hb hby at_81) rfl (XS.l2i X85.here hx rfl (hb hby at_82) rfl (XS.i2b X85.here hx rfl (hb hby at_83) rfl hr))))))) ?_
  show own_Go p e below _ (T85.setTop (mkF m 84 #[.val (.int x0), .val (.long x1), .second, .val (.long x2), .second, .val (.int x3), .val (.int (1 : Int32)), .val (.int (x3 &&& (65535 : Int32))), .val (.ref b68), .val (.ref b71), .unset, .unset, .unset, .unset, .unset] [(.int ((((x1.toUInt64 >>> ((8 : Int32) &&& 0x3f).toInt64.toUInt64).toInt64).toInt32).toInt8.toInt32)), (.int (1 : Int32)), (.ref b71)]))
  refine own_stB X85 hx hZ e85 f85 (1 : Int32) ((((x1.toUInt64 >>> ((8 : Int32) &&& 0x3f).toInt64.toUInt64).toInt64).toInt32).toInt8.toInt32) ((((x1.toUInt64 >>> ((8 : Int32) &&& 0x3f).toInt64.toUInt64).toInt64).toInt32).toInt8.toInt32) 1 ⟨by decide, by decide⟩ rfl (Nat.le_of_ble_eq_true rfl) c79 [(.int ((x1.toInt32).toInt8.toInt32)), (.int ((((x1.toUInt64 >>> ((8 : Int32) &&& 0x3f).toInt64.toUInt64).toInt64).toInt32).toInt8.toInt32)), (.int (0 : Int32)), (.int (0 : Int32)), (.int (0 : Int32)), (.int (0 : Int32)), (.int (0 : Int32)), (.int (0 : Int32)), (.int (0 : Int32)), (.int (0 : Int32)), (.int (0 : Int32)), (.int (0 : Int32)), (.int (0 : Int32)), (.int (0 : Int32)), (.int (0 : Int32)), (.int (0 : Int32))] rfl N85 ge73 (hb hby at_84) ?_
  intro T86 h86 L86 X86 e86 W86 N86 f86
  show own_Go p e below _ (T86.setTop (mkF m 85 #[.val (.int x0), .val (.long x1), .second, .val (.long x2), .second, .val (.int x3), .val (.int (1 : Int32)), .val (.int (x3 &&& (65535 : Int32))), .val (.ref b68), .val (.ref b71), .unset, .unset, .unset, .unset, .unset] []))
  refine own_go (fun _ hr => XS.aload X86.here hx rfl (hb hby at_85) rfl rfl (XS.iconst X86.here hx rfl (hb hby at_87) (XS.lloadN X86.here hx rfl (hb hby at_88) rfl (XS.bipush X86.here hx rfl (hb hby at_89) (XS.lushr X86.here hx rfl (hb hby at_91) rfl (XS.l2i X86.here hx rfl (hb hby at_92) rfl (XS.i2b X86.here hx rfl (hb hby at_93) rfl hr))))))) ?_
  show own_Go p e below _ (T86.setTop (mkF m 94 #[.val (.int x0), .val (.long x1), .second, .val (.long x2), .second, .val (.int x3), .val (.int (1 : Int32)), .val (.int (x3 &&& (65535 : Int32))), .val (.ref b68), .val (.ref b71), .unset, .unset, .unset, .unset, .unset] [(.int ((((x1.toUInt64 >>> ((16 : Int32) &&& 0x3f).toInt64.toUInt64).toInt64).toInt32).toInt8.toInt32)), (.int (2 : Int32)), (.ref b71)]))
  refine own_stB X86 hx hZ e86 f86 (2 : Int32) ((((x1.toUInt64 >>> ((16 : Int32) &&& 0x3f).toInt64.toUInt64).toInt64).toInt32).toInt8.toInt32) ((((x1.toUInt64 >>> ((16 : Int32) &&& 0x3f).toInt64.toUInt64).toInt64).toInt32).toInt8.toInt32) 2 ⟨by decide, by decide⟩ rfl (Nat.le_of_ble_eq_true rfl) c81 [(.int ((x1.toInt32).toInt8.toInt32)), (.int ((((x1.toUInt64 >>> ((8 : Int32) &&& 0x3f).toInt64.toUInt64).toInt64).toInt32).toInt8.toInt32)), (.int ((((x1.toUInt64 >>> ((16 : Int32) &&& 0x3f).toInt64.toUInt64).toInt64).toInt32).toInt8.toInt32)), (.int (0 : Int32)), (.int (0 : Int32)), (.int (0 : Int32)), (.int (0 : Int32)), (.int (0 : Int32)), (.int (0 : Int32)), (.int (0 : Int32)), (.int (0 : Int32)), (.int (0 : Int32)), (.int (0 : Int32)), (.int (0 : Int32)), (.int (0 : Int32)), (.int (0 : Int32))] rfl N86 ge73 (hb hby at_94) ?_
  intro T87 h87 L87 X87 e87 W87 N87 f87
  show own_Go p e below _ (T87.setTop (mkF m 95 #[.val (.int x0), .val (.long x1), .second, .val (.long x2), .second, .val (.int x3), .val (.int (1 : Int32)), .val (.int (x3 &&& (65535 : Int32))), .val (.ref b68), .val (.ref b71), .unset, .unset, .unset, .unset, .unset] []))
  refine own_go (fun _ hr => XS.aload X87.here hx rfl (hb hby at_95) rfl rfl (XS.iconst X87.here hx rfl (hb hby at_97) (XS.lloadN X87.here hx rfl (hb hby at_98) rfl (XS.bipush X87.here hx rfl (hb hby at_99) (XS.lushr X87.here hx rfl (hb hby at_101) rfl (XS.l2i X87.here hx rfl (hb hby at_102) rfl (XS.i2b X87.here hx rfl (hb hby at_103) rfl hr))))))) ?_
  show own_Go p e below _ (T87.setTop (mkF m 104 #[.val (.int x0), .val (.long x1), .second, .val (.long x2), .second, .val (.int x3), .val (.int (1 : Int32)), .val (.int (x3 &&& (65535 : Int32))), .val (.ref b68), .val (.ref b71), .unset, .unset, .unset, .unset, .unset] [(.int ((((x1.toUInt64 >>> ((24 : Int32) &&& 0x3f).toInt64.toUInt64).toInt64).toInt32).toInt8.toInt32)), (.int (3 : Int32)), (.ref b71)]))
  refine own_stB X87 hx hZ e87 f87 (3 : Int32) ((((x1.toUInt64 >>> ((24 : Int32) &&& 0x3f).toInt64.toUInt64).toInt64).toInt32).toInt8.toInt32) ((((x1.toUInt64 >>> ((24 : Int32) &&& 0x3f).toInt64.toUInt64).toInt64).toInt32).toInt8.toInt32) 3 ⟨by decide, by decide⟩ rfl (Nat.le_of_ble_eq_true rfl) c83 [(.int ((x1.toInt32).toInt8.toInt32)), (.int ((((x1.toUInt64 >>> ((8 : Int32) &&& 0x3f).toInt64.toUInt64).toInt64).toInt32).toInt8.toInt32)), (.int ((((x1.toUInt64 >>> ((16 : Int32) &&& 0x3f).toInt64.toUInt64).toInt64).toInt32).toInt8.toInt32)), (.int ((((x1.toUInt64 >>> ((24 : Int32) &&& 0x3f).toInt64.toUInt64).toInt64).toInt32).toInt8.toInt32)), (.int (0 : Int32)), (.int (0 : Int32)), (.int (0 : Int32)), (.int (0 : Int32)), (.int (0 : Int32)), (.int (0 : Int32)), (.int (0 : Int32)), (.int (0 : Int32)), (.int (0 : Int32)), (.int (0 : Int32)), (.int (0 : Int32)), (.int (0 : Int32))] rfl N87 ge73 (hb hby at_104) ?_
  intro T88 h88 L88 X88 e88 W88 N88 f88
  show own_Go p e below _ (T88.setTop (mkF m 105 #[.val (.int x0), .val (.long x1), .second, .val (.long x2), .second, .val (.int x3), .val (.int (1 : Int32)), .val (.int (x3 &&& (65535 : Int32))), .val (.ref b68), .val (.ref b71), .unset, .unset, .unset, .unset, .unset] []))
  refine own_go (fun _ hr => XS.aload X88.here hx rfl (hb hby at_105) rfl rfl (XS.iconst X88.here hx rfl (hb hby at_107) (XS.lloadN X88.here hx rfl (hb hby at_108) rfl (XS.bipush X88.here hx rfl (hb hby at_109) (XS.lushr X88.here hx rfl (hb hby at_111) rfl (XS.l2i X88.here hx rfl (hb hby at_112) rfl (XS.i2b X88.here hx rfl (hb hby at_113) rfl hr))))))) ?_
  show own_Go p e below _ (T88.setTop (mkF m 114 #[.val (.int x0), .val (.long x1), .second, .val (.long x2), .second, .val (.int x3), .val (.int (1 : Int32)), .val (.int (x3 &&& (65535 : Int32))), .val (.ref b68), .val (.ref b71), .unset, .unset, .unset, .unset, .unset] [(.int ((((x1.toUInt64 >>> ((32 : Int32) &&& 0x3f).toInt64.toUInt64).toInt64).toInt32).toInt8.toInt32)), (.int (4 : Int32)), (.ref b71)]))
  have c90 : (nar .byte ((((x1.toUInt64 >>> ((32 : Int32) &&& 0x3f).toInt64.toUInt64).toInt64).toInt32).toInt8.toInt32)) = ((((x1.toUInt64 >>> ((32 : Int32) &&& 0x3f).toInt64.toUInt64).toInt64).toInt32).toInt8.toInt32) := by
    have q0 := rng64 x1
    have q1 := c_l2i x1
    have q2 := c_i2b (x1.toInt32)
    have q3 := (show ((nar .byte ((x1.toInt32).toInt8.toInt32)).toInt - ((x1.toInt32).toInt8.toInt32).toInt) % 256 = 0 ∧ -128 ≤ (nar .byte ((x1.toInt32).toInt8.toInt32)).toInt ∧ (nar .byte ((x1.toInt32).toInt8.toInt32)).toInt < 128 from c_i2b ((x1.toInt32).toInt8.toInt32))
    have q4 := c_lushr x1 (8 : Int32) 8 (by decide) (by decide)
    have q5 := c_l2i ((x1.toUInt64 >>> ((8 : Int32) &&& 0x3f).toInt64.toUInt64).toInt64)
    have q6 := c_i2b (((x1.toUInt64 >>> ((8 : Int32) &&& 0x3f).toInt64.toUInt64).toInt64).toInt32)
    have q7 := (show ((nar .byte ((((x1.toUInt64 >>> ((8 : Int32) &&& 0x3f).toInt64.toUInt64).toInt64).toInt32).toInt8.toInt32)).toInt - ((((x1.toUInt64 >>> ((8 : Int32) &&& 0x3f).toInt64.toUInt64).toInt64).toInt32).toInt8.toInt32).toInt) % 256 = 0 ∧ -128 ≤ (nar .byte ((((x1.toUInt64 >>> ((8 : Int32) &&& 0x3f).toInt64.toUInt64).toInt64).toInt32).toInt8.toInt32)).toInt ∧ (nar .byte ((((x1.toUInt64 >>> ((8 : Int32) &&& 0x3f).toInt64.toUInt64).toInt64).toInt32).toInt8.toInt32)).toInt < 128 from c_i2b ((((x1.toUInt64 >>> ((8 : Int32) &&& 0x3f).toInt64.toUInt64).toInt64).toInt32).toInt8.toInt32))
    have q8 := c_lushr x1 (16 : Int32) 16 (by decide) (by decide)
    have q9 := c_l2i ((x1.toUInt64 >>> ((16 : Int32) &&& 0x3f).toInt64.toUInt64).toInt64)
    have q10 := c_i2b (((x1.toUInt64 >>> ((16 : Int32) &&& 0x3f).toInt64.toUInt64).toInt64).toInt32)
    have q11 := (show ((nar .byte ((((x1.toUInt64 >>> ((16 : Int32) &&& 0x3f).toInt64.toUInt64).toInt64).toInt32).toInt8.toInt32)).toInt - ((((x1.toUInt64 >>> ((16 : Int32) &&& 0x3f).toInt64.toUInt64).toInt64).toInt32).toInt8.toInt32).toInt) % 256 = 0 ∧ -128 ≤ (nar .byte ((((x1.toUInt64 >>> ((16 : Int32) &&& 0x3f).toInt64.toUInt64).toInt64).toInt32).toInt8.toInt32)).toInt ∧ (nar .byte ((((x1.toUInt64 >>> ((16 : Int32) &&& 0x3f).toInt64.toUInt64).toInt64).toInt32).toInt8.toInt32)).toInt < 128 from c_i2b ((((x1.toUInt64 >>> ((16 : Int32) &&& 0x3f).toInt64.toUInt64).toInt64).toInt32).toInt8.toInt32))
    have q12 := c_lushr x1 (24 : Int32) 24 (by decide) (by decide)
    have q13 := c_l2i ((x1.toUInt64 >>> ((24 : Int32) &&& 0x3f).toInt64.toUInt64).toInt64)
    have q14 := c_i2b (((x1.toUInt64 >>> ((24 : Int32) &&& 0x3f).toInt64.toUInt64).toInt64).toInt32)
    have q15 := (show ((nar .byte ((((x1.toUInt64 >>> ((24 : Int32) &&& 0x3f).toInt64.toUInt64).toInt64).toInt32).toInt8.toInt32)).toInt - ((((x1.toUInt64 >>> ((24 : Int32) &&& 0x3f).toInt64.toUInt64).toInt64).toInt32).toInt8.toInt32).toInt) % 256 = 0 ∧ -128 ≤ (nar .byte ((((x1.toUInt64 >>> ((24 : Int32) &&& 0x3f).toInt64.toUInt64).toInt64).toInt32).toInt8.toInt32)).toInt ∧ (nar .byte ((((x1.toUInt64 >>> ((24 : Int32) &&& 0x3f).toInt64.toUInt64).toInt64).toInt32).toInt8.toInt32)).toInt < 128 from c_i2b ((((x1.toUInt64 >>> ((24 : Int32) &&& 0x3f).toInt64.toUInt64).toInt64).toInt32).toInt8.toInt32))
    have q16 := c_lushr x1 (32 : Int32) 32 (by decide) (by decide)
    have q17 := c_l2i ((x1.toUInt64 >>> ((32 : Int32) &&& 0x3f).toInt64.toUInt64).toInt64)
    have q18 := c_i2b (((x1.toUInt64 >>> ((32 : Int32) &&& 0x3f).toInt64.toUInt64).toInt64).toInt32)
    have q19 := (show ((nar .byte ((((x1.toUInt64 >>> ((32 : Int32) &&& 0x3f).toInt64.toUInt64).toInt64).toInt32).toInt8.toInt32)).toInt - ((((x1.toUInt64 >>> ((32 : Int32) &&& 0x3f).toInt64.toUInt64).toInt64).toInt32).toInt8.toInt32).toInt) % 256 = 0 ∧ -128 ≤ (nar .byte ((((x1.toUInt64 >>> ((32 : Int32) &&& 0x3f).toInt64.toUInt64).toInt64).toInt32).toInt8.toInt32)).toInt ∧ (nar .byte ((((x1.toUInt64 >>> ((32 : Int32) &&& 0x3f).toInt64.toUInt64).toInt64).toInt32).toInt8.toInt32)).toInt < 128 from c_i2b ((((x1.toUInt64 >>> ((32 : Int32) &&& 0x3f).toInt64.toUInt64).toInt64).toInt32).toInt8.toInt32))
    have p0 := c77
    have p1 := c79
    have p2 := c81
    have p3 := c83
    simp only [true_implies, Int32.lt_iff_toInt_lt, ← Int32.toInt_inj, Int32.reduceToInt, Int64.lt_iff_toInt_lt, ← Int64.toInt_inj, Int64.reduceToInt] at q0 q1 q2 q3 q4 q5 q6 q7 q8 q9 q10 q11 q12 q13 q14 q15 q16 q17 q18 q19 p0 p1 p2 p3 ⊢
    omega
  refine own_stB X88 hx hZ e88 f88 (4 : Int32) ((((x1.toUInt64 >>> ((32 : Int32) &&& 0x3f).toInt64.toUInt64).toInt64).toInt32).toInt8.toInt32) ((((x1.toUInt64 >>> ((32 : Int32) &&& 0x3f).toInt64.toUInt64).toInt64).toInt32).toInt8.toInt32) 4 ⟨by decide, by decide⟩ rfl (Nat.le_of_ble_eq_true rfl) c90 [(.int ((x1.toInt32).toInt8.toInt32)), (.int ((((x1.toUInt64 >>> ((8 : Int32) &&& 0x3f).toInt64.toUInt64).toInt64).toInt32).toInt8.toInt32)), (.int ((((x1.toUInt64 >>> ((16 : Int32) &&& 0x3f).toInt64.toUInt64).toInt64).toInt32).toInt8.toInt32)), (.int ((((x1.toUInt64 >>> ((24 : Int32) &&& 0x3f).toInt64.toUInt64).toInt64).toInt32).toInt8.toInt32)), (.int ((((x1.toUInt64 >>> ((32 : Int32) &&& 0x3f).toInt64.toUInt64).toInt64).toInt32).toInt8.toInt32)), (.int (0 : Int32)), (.int (0 : Int32)), (.int (0 : Int32)), (.int (0 : Int32)), (.int (0 : Int32)), (.int (0 : Int32)), (.int (0 : Int32)), (.int (0 : Int32)), (.int (0 : Int32)), (.int (0 : Int32)), (.int (0 : Int32))] rfl N88 ge73 (hb hby at_114) ?_
  intro T89 h89 L89 X89 e89 W89 N89 f89
  show own_Go p e below _ (T89.setTop (mkF m 115 #[.val (.int x0), .val (.long x1), .second, .val (.long x2), .second, .val (.int x3), .val (.int (1 : Int32)), .val (.int (x3 &&& (65535 : Int32))), .val (.ref b68), .val (.ref b71), .unset, .unset, .unset, .unset, .unset] []))
  refine own_go (fun _ hr => XS.aload X89.here hx rfl (hb hby at_115) rfl rfl (XS.iconst X89.here hx rfl (hb hby at_117) (XS.lloadN X89.here hx rfl (hb hby at_118) rfl (XS.bipush X89.here hx rfl (hb hby at_119) (XS.lushr X89.here hx rfl (hb hby at_121) rfl (XS.l2i X89.here hx rfl (hb hby at_122) rfl (XS.i2b X89.here hx rfl (hb hby at_123) rfl hr))))))) ?_
  show own_Go p e below _ (T89.setTop (mkF m 124 #[.val (.int x0), .val (.long x1), .second, .val (.long x2), .second, .val (.int x3), .val (.int (1 : Int32)), .val (.int (x3 &&& (65535 : Int32))), .val (.ref b68), .val (.ref b71), .unset, .unset, .unset, .unset, .unset] [(.int ((((x1.toUInt64 >>> ((40 : Int32) &&& 0x3f).toInt64.toUInt64).toInt64).toInt32).toInt8.toInt32)), (.int (5 : Int32)), (.ref b71)]))
  have c92 : (nar .byte ((((x1.toUInt64 >>> ((40 : Int32) &&& 0x3f).toInt64.toUInt64).toInt64).toInt32).toInt8.toInt32)) = ((((x1.toUInt64 >>> ((40 : Int32) &&& 0x3f).toInt64.toUInt64).toInt64).toInt32).toInt8.toInt32) := by
    have q0 := rng64 x1
    have q1 := c_l2i x1
    have q2 := c_i2b (x1.toInt32)
    have q3 := (show ((nar .byte ((x1.toInt32).toInt8.toInt32)).toInt - ((x1.toInt32).toInt8.toInt32).toInt) % 256 = 0 ∧ -128 ≤ (nar .byte ((x1.toInt32).toInt8.toInt32)).toInt ∧ (nar .byte ((x1.toInt32).toInt8.toInt32)).toInt < 128 from c_i2b ((x1.toInt32).toInt8.toInt32))
    have q4 := c_lushr x1 (8 : Int32) 8 (by decide) (by decide)
    have q5 := c_l2i ((x1.toUInt64 >>> ((8 : Int32) &&& 0x3f).toInt64.toUInt64).toInt64)
    have q6 := c_i2b (((x1.toUInt64 >>> ((8 : Int32) &&& 0x3f).toInt64.toUInt64).toInt64).toInt32)
    have q7 := (show ((nar .byte ((((x1.toUInt64 >>> ((8 : Int32) &&& 0x3f).toInt64.toUInt64).toInt64).toInt32).toInt8.toInt32)).toInt - ((((x1.toUInt64 >>> ((8 : Int32) &&& 0x3f).toInt64.toUInt64).toInt64).toInt32).toInt8.toInt32).toInt) % 256 = 0 ∧ -128 ≤ (nar .byte ((((x1.toUInt64 >>> ((8 : Int32) &&& 0x3f).toInt64.toUInt64).toInt64).toInt32).toInt8.toInt32)).toInt ∧ (nar .byte ((((x1.toUInt64 >>> ((8 : Int32) &&& 0x3f).toInt64.toUInt64).toInt64).toInt32).toInt8.toInt32)).toInt < 128 from c_i2b ((((x1.toUInt64 >>> ((8 : Int32) &&& 0x3f).toInt64.toUInt64).toInt64).toInt32).toInt8.toInt32))
    have q8 := c_lushr x1 (16 : Int32) 16 (by decide) (by decide)
    have q9 := c_l2i ((x1.toUInt64 >>> ((16 : Int32) &&& 0x3f).toInt64.toUInt64).toInt64)
    have q10 := c_i2b (((x1.toUInt64 >>> ((16 : Int32) &&& 0x3f).toInt64.toUInt64).toInt64).toInt32)
    have q11 := (show ((nar .byte ((((x1.toUInt64 >>> ((16 : Int32) &&& 0x3f).toInt64.toUInt64).toInt64).toInt32).toInt8.toInt32)).toInt - ((((x1.toUInt64 >>> ((16 : Int32) &&& 0x3f).toInt64.toUInt64).toInt64).toInt32).toInt8.toInt32).toInt) % 256 = 0 ∧ -128 ≤ (nar .byte ((((x1.toUInt64 >>> ((16 : Int32) &&& 0x3f).toInt64.toUInt64).toInt64).toInt32).toInt8.toInt32)).toInt ∧ (nar .byte ((((x1.toUInt64 >>> ((16 : Int32) &&& 0x3f).toInt64.toUInt64).toInt64).toInt32).toInt8.toInt32)).toInt < 128 from c_i2b ((((x1.toUInt64 >>> ((16 : Int32) &&& 0x3f).toInt64.toUInt64).toInt64).toInt32).toInt8.toInt32))
    have q12 := c_lushr x1 (24 : Int32) 24 (by decide) (by decide)
    have q13 := c_l2i ((x1.toUInt64 >>> ((24 : Int32) &&& 0x3f).toInt64.toUInt64).toInt64)
    have q14 := c_i2b (((x1.toUInt64 >>> ((24 : Int32) &&& 0x3f).toInt64.toUInt64).toInt64).toInt32)
    have q15 := (show ((nar .byte ((((x1.toUInt64 >>> ((24 : Int32) &&& 0x3f).toInt64.toUInt64).toInt64).toInt32).toInt8.toInt32)).toInt - ((((x1.toUInt64 >>> ((24 : Int32) &&& 0x3f).toInt64.toUInt64).toInt64).toInt32).toInt8.toInt32).toInt) % 256 = 0 ∧ -128 ≤ (nar .byte ((((x1.toUInt64 >>> ((24 : Int32) &&& 0x3f).toInt64.toUInt64).toInt64).toInt32).toInt8.toInt32)).toInt ∧ (nar .byte ((((x1.toUInt64 >>> ((24 : Int32) &&& 0x3f).toInt64.toUInt64).toInt64).toInt32).toInt8.toInt32)).toInt < 128 from c_i2b ((((x1.toUInt64 >>> ((24 : Int32) &&& 0x3f).toInt64.toUInt64).toInt64).toInt32).toInt8.toInt32))
    have q16 := c_lushr x1 (32 : Int32) 32 (by decide) (by decide)
    have q17 := c_l2i ((x1.toUInt64 >>> ((32 : Int32) &&& 0x3f).toInt64.toUInt64).toInt64)
    have q18 := c_i2b (((x1.toUInt64 >>> ((32 : Int32) &&& 0x3f).toInt64.toUInt64).toInt64).toInt32)
    have q19 := (show ((nar .byte ((((x1.toUInt64 >>> ((32 : Int32) &&& 0x3f).toInt64.toUInt64).toInt64).toInt32).toInt8.toInt32)).toInt - ((((x1.toUInt64 >>> ((32 : Int32) &&& 0x3f).toInt64.toUInt64).toInt64).toInt32).toInt8.toInt32).toInt) % 256 = 0 ∧ -128 ≤ (nar .byte ((((x1.toUInt64 >>> ((32 : Int32) &&& 0x3f).toInt64.toUInt64).toInt64).toInt32).toInt8.toInt32)).toInt ∧ (nar .byte ((((x1.toUInt64 >>> ((32 : Int32) &&& 0x3f).toInt64.toUInt64).toInt64).toInt32).toInt8.toInt32)).toInt < 128 from c_i2b ((((x1.toUInt64 >>> ((32 : Int32) &&& 0x3f).toInt64.toUInt64).toInt64).toInt32).toInt8.toInt32))
    have q20 := c_lushr x1 (40 : Int32) 40 (by decide) (by decide)
    have q21 := c_l2i ((x1.toUInt64 >>> ((40 : Int32) &&& 0x3f).toInt64.toUInt64).toInt64)
    have q22 := c_i2b (((x1.toUInt64 >>> ((40 : Int32) &&& 0x3f).toInt64.toUInt64).toInt64).toInt32)
    have q23 := (show ((nar .byte ((((x1.toUInt64 >>> ((40 : Int32) &&& 0x3f).toInt64.toUInt64).toInt64).toInt32).toInt8.toInt32)).toInt - ((((x1.toUInt64 >>> ((40 : Int32) &&& 0x3f).toInt64.toUInt64).toInt64).toInt32).toInt8.toInt32).toInt) % 256 = 0 ∧ -128 ≤ (nar .byte ((((x1.toUInt64 >>> ((40 : Int32) &&& 0x3f).toInt64.toUInt64).toInt64).toInt32).toInt8.toInt32)).toInt ∧ (nar .byte ((((x1.toUInt64 >>> ((40 : Int32) &&& 0x3f).toInt64.toUInt64).toInt64).toInt32).toInt8.toInt32)).toInt < 128 from c_i2b ((((x1.toUInt64 >>> ((40 : Int32) &&& 0x3f).toInt64.toUInt64).toInt64).toInt32).toInt8.toInt32))
    have p0 := c77
    have p1 := c79
    have p2 := c81
    have p3 := c83
    have p4 := c90
    simp only [true_implies, Int32.lt_iff_toInt_lt, ← Int32.toInt_inj, Int32.reduceToInt, Int64.lt_iff_toInt_lt, ← Int64.toInt_inj, Int64.reduceToInt] at q0 q1 q2 q3 q4 q5 q6 q7 q8 q9 q10 q11 q12 q13 q14 q15 q16 q17 q18 q19 q20 q21 q22 q23 p0 p1 p2 p3 p4 ⊢
    omega
  refine own_stB X89 hx hZ e89 f89 (5 : Int32) ((((x1.toUInt64 >>> ((40 : Int32) &&& 0x3f).toInt64.toUInt64).toInt64).toInt32).toInt8.toInt32) ((((x1.toUInt64 >>> ((40 : Int32) &&& 0x3f).toInt64.toUInt64).toInt64).toInt32).toInt8.toInt32) 5 ⟨by decide, by decide⟩ rfl (Nat.le_of_ble_eq_true rfl) c92 [(.int ((x1.toInt32).toInt8.toInt32)), (.int ((((x1.toUInt64 >>> ((8 : Int32) &&& 0x3f).toInt64.toUInt64).toInt64).toInt32).toInt8.toInt32)), (.int ((((x1.toUInt64 >>> ((16 : Int32) &&& 0x3f).toInt64.toUInt64).toInt64).toInt32).toInt8.toInt32)), (.int ((((x1.toUInt64 >>> ((24 : Int32) &&& 0x3f).toInt64.toUInt64).toInt64).toInt32).toInt8.toInt32)), (.int ((((x1.toUInt64 >>> ((32 : Int32) &&& 0x3f).toInt64.toUInt64).toInt64).toInt32).toInt8.toInt32)), (.int ((((x1.toUInt64 >>> ((40 : Int32) &&& 0x3f).toInt64.toUInt64).toInt64).toInt32).toInt8.toInt32)), (.int (0 : Int32)), (.int (0 : Int32)), (.int (0 : Int32)), (.int (0 : Int32)), (.int (0 : Int32)), (.int (0 : Int32)), (.int (0 : Int32)), (.int (0 : Int32)), (.int (0 : Int32)), (.int (0 : Int32))] rfl N89 ge73 (hb hby at_124) ?_
  intro T91 h91 L91 X91 e91 W91 N91 f91
  show own_Go p e below _ (T91.setTop (mkF m 125 #[.val (.int x0), .val (.long x1), .second, .val (.long x2), .second, .val (.int x3), .val (.int (1 : Int32)), .val (.int (x3 &&& (65535 : Int32))), .val (.ref b68), .val (.ref b71), .unset, .unset, .unset, .unset, .unset] []))
  refine own_go (fun _ hr => XS.aload X91.here hx rfl (hb hby at_125) rfl rfl (XS.bipush X91.here hx rfl (hb hby at_127) (XS.lloadN X91.here hx rfl (hb hby at_129) rfl (XS.bipush X91.here hx rfl (hb hby at_130) (XS.lushr X91.here hx rfl (hb hby at_132) rfl (XS.l2i X91.here hx rfl (hb hby at_133) rfl (XS.i2b X91.here hx rfl (hb hby at_134) rfl hr))))))) ?_
  show own_Go p e below _ (T91.setTop (mkF m 135 #[.val (.int x0), .val (.long x1), .second, .val (.long x2), .second, .val (.int x3), .val (.int (1 : Int32)), .val (.int (x3 &&& (65535 : Int32))), .val (.ref b68), .val (.ref b71), .unset, .unset, .unset, .unset, .unset] [(.int ((((x1.toUInt64 >>> ((48 : Int32) &&& 0x3f).toInt64.toUInt64).toInt64).toInt32).toInt8.toInt32)), (.int (6 : Int32)), (.ref b71)]))
  have c94 : (nar .byte ((((x1.toUInt64 >>> ((48 : Int32) &&& 0x3f).toInt64.toUInt64).toInt64).toInt32).toInt8.toInt32)) = ((((x1.toUInt64 >>> ((48 : Int32) &&& 0x3f).toInt64.toUInt64).toInt64).toInt32).toInt8.toInt32) := by
    have q0 := rng64 x1
    have q1 := c_l2i x1
    have q2 := c_i2b (x1.toInt32)
    have q3 := (show ((nar .byte ((x1.toInt32).toInt8.toInt32)).toInt - ((x1.toInt32).toInt8.toInt32).toInt) % 256 = 0 ∧ -128 ≤ (nar .byte ((x1.toInt32).toInt8.toInt32)).toInt ∧ (nar .byte ((x1.toInt32).toInt8.toInt32)).toInt < 128 from c_i2b ((x1.toInt32).toInt8.toInt32))
    have q4 := c_lushr x1 (8 : Int32) 8 (by decide) (by decide)
    have q5 := c_l2i ((x1.toUInt64 >>> ((8 : Int32) &&& 0x3f).toInt64.toUInt64).toInt64)
    have q6 := c_i2b (((x1.toUInt64 >>> ((8 : Int32) &&& 0x3f).toInt64.toUInt64).toInt64).toInt32)
    have q7 := (show ((nar .byte ((((x1.toUInt64 >>> ((8 : Int32) &&& 0x3f).toInt64.toUInt64).toInt64).toInt32).toInt8.toInt32)).toInt - ((((x1.toUInt64 >>> ((8 : Int32) &&& 0x3f).toInt64.toUInt64).toInt64).toInt32).toInt8.toInt32).toInt) % 256 = 0 ∧ -128 ≤ (nar .byte ((((x1.toUInt64 >>> ((8 : Int32) &&& 0x3f).toInt64.toUInt64).toInt64).toInt32).toInt8.toInt32)).toInt ∧ (nar .byte ((((x1.toUInt64 >>> ((8 : Int32) &&& 0x3f).toInt64.toUInt64).toInt64).toInt32).toInt8.toInt32)).toInt < 128 from c_i2b ((((x1.toUInt64 >>> ((8 : Int32) &&& 0x3f).toInt64.toUInt64).toInt64).toInt32).toInt8.toInt32))
    have q8 := c_lushr x1 (16 : Int32) 16 (by decide) (by decide)
    have q9 := c_l2i ((x1.toUInt64 >>> ((16 : Int32) &&& 0x3f).toInt64.toUInt64).toInt64)
    have q10 := c_i2b (((x1.toUInt64 >>> ((16 : Int32) &&& 0x3f).toInt64.toUInt64).toInt64).toInt32)
    have q11 := (show ((nar .byte ((((x1.toUInt64 >>> ((16 : Int32) &&& 0x3f).toInt64.toUInt64).toInt64).toInt32).toInt8.toInt32)).toInt - ((((x1.toUInt64 >>> ((16 : Int32) &&& 0x3f).toInt64.toUInt64).toInt64).toInt32).toInt8.toInt32).toInt) % 256 = 0 ∧ -128 ≤ (nar .byte ((((x1.toUInt64 >>> ((16 : Int32) &&& 0x3f).toInt64.toUInt64).toInt64).toInt32).toInt8.toInt32)).toInt ∧ (nar .byte ((((x1.toUInt64 >>> ((16 : Int32) &&& 0x3f).toInt64.toUInt64).toInt64).toInt32).toInt8.toInt32)).toInt < 128 from c_i2b ((((x1.toUInt64 >>> ((16 : Int32) &&& 0x3f).toInt64.toUInt64).toInt64).toInt32).toInt8.toInt32))
    have q12 := c_lushr x1 (24 : Int32) 24 (by decide) (by decide)
    have q13 := c_l2i ((x1.toUInt64 >>> ((24 : Int32) &&& 0x3f).toInt64.toUInt64).toInt64)
    have q14 := c_i2b (((x1.toUInt64 >>> ((24 : Int32) &&& 0x3f).toInt64.toUInt64).toInt64).toInt32)
    have q15 := (show ((nar .byte ((((x1.toUInt64 >>> ((24 : Int32) &&& 0x3f).toInt64.toUInt64).toInt64).toInt32).toInt8.toInt32)).toInt - ((((x1.toUInt64 >>> ((24 : Int32) &&& 0x3f).toInt64.toUInt64).toInt64).toInt32).toInt8.toInt32).toInt) % 256 = 0 ∧ -128 ≤ (nar .byte ((((x1.toUInt64 >>> ((24 : Int32) &&& 0x3f).toInt64.toUInt64).toInt64).toInt32).toInt8.toInt32)).toInt ∧ (nar .byte ((((x1.toUInt64 >>> ((24 : Int32) &&& 0x3f).toInt64.toUInt64).toInt64).toInt32).toInt8.toInt32)).toInt < 128 from c_i2b ((((x1.toUInt64 >>> ((24 : Int32) &&& 0x3f).toInt64.toUInt64).toInt64).toInt32).toInt8.toInt32))
    have q16 := c_lushr x1 (32 : Int32) 32 (by decide) (by decide)
    have q17 := c_l2i ((x1.toUInt64 >>> ((32 : Int32) &&& 0x3f).toInt64.toUInt64).toInt64)
    have q18 := c_i2b (((x1.toUInt64 >>> ((32 : Int32) &&& 0x3f).toInt64.toUInt64).toInt64).toInt32)
    have q19 := (show ((nar .byte ((((x1.toUInt64 >>> ((32 : Int32) &&& 0x3f).toInt64.toUInt64).toInt64).toInt32).toInt8.toInt32)).toInt - ((((x1.toUInt64 >>> ((32 : Int32) &&& 0x3f).toInt64.toUInt64).toInt64).toInt32).toInt8.toInt32).toInt) % 256 = 0 ∧ -128 ≤ (nar .byte ((((x1.toUInt64 >>> ((32 : Int32) &&& 0x3f).toInt64.toUInt64).toInt64).toInt32).toInt8.toInt32)).toInt ∧ (nar .byte ((((x1.toUInt64 >>> ((32 : Int32) &&& 0x3f).toInt64.toUInt64).toInt64).toInt32).toInt8.toInt32)).toInt < 128 from c_i2b ((((x1.toUInt64 >>> ((32 : Int32) &&& 0x3f).toInt64.toUInt64).toInt64).toInt32).toInt8.toInt32))
    have q20 := c_lushr x1 (40 : Int32) 40 (by decide) (by decide)
    have q21 := c_l2i ((x1.toUInt64 >>> ((40 : Int32) &&& 0x3f).toInt64.toUInt64).toInt64)
    have q22 := c_i2b (((x1.toUInt64 >>> ((40 : Int32) &&& 0x3f).toInt64.toUInt64).toInt64).toInt32)
    have q23 := (show ((nar .byte ((((x1.toUInt64 >>> ((40 : Int32) &&& 0x3f).toInt64.toUInt64).toInt64).toInt32).toInt8.toInt32)).toInt - ((((x1.toUInt64 >>> ((40 : Int32) &&& 0x3f).toInt64.toUInt64).toInt64).toInt32).toInt8.toInt32).toInt) % 256 = 0 ∧ -128 ≤ (nar .byte ((((x1.toUInt64 >>> ((40 : Int32) &&& 0x3f).toInt64.toUInt64).toInt64).toInt32).toInt8.toInt32)).toInt ∧ (nar .byte ((((x1.toUInt64 >>> ((40 : Int32) &&& 0x3f).toInt64.toUInt64).toInt64).toInt32).toInt8.toInt32)).toInt < 128 from c_i2b ((((x1.toUInt64 >>> ((40 : Int32) &&& 0x3f).toInt64.toUInt64).toInt64).toInt32).toInt8.toInt32))
    have q24 := c_lushr x1 (48 : Int32) 48 (by decide) (by decide)
    have q25 := c_l2i ((x1.toUInt64 >>> ((48 : Int32) &&& 0x3f).toInt64.toUInt64).toInt64)
    have q26 := c_i2b (((x1.toUInt64 >>> ((48 : Int32) &&& 0x3f).toInt64.toUInt64).toInt64).toInt32)
    have q27 := (show ((nar .byte ((((x1.toUInt64 >>> ((48 : Int32) &&& 0x3f).toInt64.toUInt64).toInt64).toInt32).toInt8.toInt32)).toInt - ((((x1.toUInt64 >>> ((48 : Int32) &&& 0x3f).toInt64.toUInt64).toInt64).toInt32).toInt8.toInt32).toInt) % 256 = 0 ∧ -128 ≤ (nar .byte ((((x1.toUInt64 >>> ((48 : Int32) &&& 0x3f).toInt64.toUInt64).toInt64).toInt32).toInt8.toInt32)).toInt ∧ (nar .byte ((((x1.toUInt64 >>> ((48 : Int32) &&& 0x3f).toInt64.toUInt64).toInt64).toInt32).toInt8.toInt32)).toInt < 128 from c_i2b ((((x1.toUInt64 >>> ((48 : Int32) &&& 0x3f).toInt64.toUInt64).toInt64).toInt32).toInt8.toInt32))
    have p0 := c77
    have p1 := c79
    have p2 := c81
    have p3 := c83
    have p4 := c90
    have p5 := c92
    simp only [true_implies, Int32.lt_iff_toInt_lt, ← Int32.toInt_inj, Int32.reduceToInt, Int64.lt_iff_toInt_lt, ← Int64.toInt_inj, Int64.reduceToInt] at q0 q1 q2 q3 q4 q5 q6 q7 q8 q9 q10 q11 q12 q13 q14 q15 q16 q17 q18 q19 q20 q21 q22 q23 q24 q25 q26 q27 p0 p1 p2 p3 p4 p5 ⊢
    omega
  refine own_stB X91 hx hZ e91 f91 (6 : Int32) ((((x1.toUInt64 >>> ((48 : Int32) &&& 0x3f).toInt64.toUInt64).toInt64).toInt32).toInt8.toInt32) ((((x1.toUInt64 >>> ((48 : Int32) &&& 0x3f).toInt64.toUInt64).toInt64).toInt32).toInt8.toInt32) 6 ⟨by decide, by decide⟩ rfl (Nat.le_of_ble_eq_true rfl) c94 [(.int ((x1.toInt32).toInt8.toInt32)), (.int ((((x1.toUInt64 >>> ((8 : Int32) &&& 0x3f).toInt64.toUInt64).toInt64).toInt32).toInt8.toInt32)), (.int ((((x1.toUInt64 >>> ((16 : Int32) &&& 0x3f).toInt64.toUInt64).toInt64).toInt32).toInt8.toInt32)), (.int ((((x1.toUInt64 >>> ((24 : Int32) &&& 0x3f).toInt64.toUInt64).toInt64).toInt32).toInt8.toInt32)), (.int ((((x1.toUInt64 >>> ((32 : Int32) &&& 0x3f).toInt64.toUInt64).toInt64).toInt32).toInt8.toInt32)), (.int ((((x1.toUInt64 >>> ((40 : Int32) &&& 0x3f).toInt64.toUInt64).toInt64).toInt32).toInt8.toInt32)), (.int ((((x1.toUInt64 >>> ((48 : Int32) &&& 0x3f).toInt64.toUInt64).toInt64).toInt32).toInt8.toInt32)), (.int (0 : Int32)), (.int (0 : Int32)), (.int (0 : Int32)), (.int (0 : Int32)), (.int (0 : Int32)), (.int (0 : Int32)), (.int (0 : Int32)), (.int (0 : Int32)), (.int (0 : Int32))] rfl N91 ge73 (hb hby at_135) ?_
  intro T93 h93 L93 X93 e93 W93 N93 f93
  show own_Go p e below _ (T93.setTop (mkF m 136 #[.val (.int x0), .val (.long x1), .second, .val (.long x2), .second, .val (.int x3), .val (.int (1 : Int32)), .val (.int (x3 &&& (65535 : Int32))), .val (.ref b68), .val (.ref b71), .unset, .unset, .unset, .unset, .unset] []))
  refine own_go (fun _ hr => XS.aload X93.here hx rfl (hb hby at_136) rfl rfl (XS.bipush X93.here hx rfl (hb hby at_138) (XS.lloadN X93.here hx rfl (hb hby at_140) rfl (XS.bipush X93.here hx rfl (hb hby at_141) (XS.lushr X93.here hx rfl (hb hby at_143) rfl (XS.l2i X93.here hx rfl (hb hby at_144) rfl (XS.i2b X93.here hx rfl (hb hby at_145) rfl hr))))))) ?_
  show own_Go p e below _ (T93.setTop (mkF m 146 #[.val (.int x0), .val (.long x1), .second, .val (.long x2), .second, .val (.int x3), .val (.int (1 : Int32)), .val (.int (x3 &&& (65535 : Int32))), .val (.ref b68), .val (.ref b71), .unset, .unset, .unset, .unset, .unset] [(.int ((((x1.toUInt64 >>> ((56 : Int32) &&& 0x3f).toInt64.toUInt64).toInt64).toInt32).toInt8.toInt32)), (.int (7 : Int32)), (.ref b71)]))
  have c96 : (nar .byte ((((x1.toUInt64 >>> ((56 : Int32) &&& 0x3f).toInt64.toUInt64).toInt64).toInt32).toInt8.toInt32)) = ((((x1.toUInt64 >>> ((56 : Int32) &&& 0x3f).toInt64.toUInt64).toInt64).toInt32).toInt8.toInt32) := by
    have q0 := rng64 x1
    have q1 := c_l2i x1
    have q2 := c_i2b (x1.toInt32)
    have q3 := (show ((nar .byte ((x1.toInt32).toInt8.toInt32)).toInt - ((x1.toInt32).toInt8.toInt32).toInt) % 256 = 0 ∧ -128 ≤ (nar .byte ((x1.toInt32).toInt8.toInt32)).toInt ∧ (nar .byte ((x1.toInt32).toInt8.toInt32)).toInt < 128 from c_i2b ((x1.toInt32).toInt8.toInt32))
    have q4 := c_lushr x1 (8 : Int32) 8 (by decide) (by decide)
    have q5 := c_l2i ((x1.toUInt64 >>> ((8 : Int32) &&& 0x3f).toInt64.toUInt64).toInt64)
    have q6 := c_i2b (((x1.toUInt64 >>> ((8 : Int32) &&& 0x3f).toInt64.toUInt64).toInt64).toInt32)
    have q7 := (show ((nar .byte ((((x1.toUInt64 >>> ((8 : Int32) &&& 0x3f).toInt64.toUInt64).toInt64).toInt32).toInt8.toInt32)).toInt - ((((x1.toUInt64 >>> ((8 : Int32) &&& 0x3f).toInt64.toUInt64).toInt64).toInt32).toInt8.toInt32).toInt) % 256 = 0 ∧ -128 ≤ (nar .byte ((((x1.toUInt64 >>> ((8 : Int32) &&& 0x3f).toInt64.toUInt64).toInt64).toInt32).toInt8.toInt32)).toInt ∧ (nar .byte ((((x1.toUInt64 >>> ((8 : Int32) &&& 0x3f).toInt64.toUInt64).toInt64).toInt32).toInt8.toInt32)).toInt < 128 from c_i2b ((((x1.toUInt64 >>> ((8 : Int32) &&& 0x3f).toInt64.toUInt64).toInt64).toInt32).toInt8.toInt32))
    have q8 := c_lushr x1 (16 : Int32) 16 (by decide) (by decide)
    have q9 := c_l2i ((x1.toUInt64 >>> ((16 : Int32) &&& 0x3f).toInt64.toUInt64).toInt64)
    have q10 := c_i2b (((x1.toUInt64 >>> ((16 : Int32) &&& 0x3f).toInt64.toUInt64).toInt64).toInt32)
    have q11 := (show ((nar .byte ((((x1.toUInt64 >>> ((16 : Int32) &&& 0x3f).toInt64.toUInt64).toInt64).toInt32).toInt8.toInt32)).toInt - ((((x1.toUInt64 >>> ((16 : Int32) &&& 0x3f).toInt64.toUInt64).toInt64).toInt32).toInt8.toInt32).toInt) % 256 = 0 ∧ -128 ≤ (nar .byte ((((x1.toUInt64 >>> ((16 : Int32) &&& 0x3f).toInt64.toUInt64).toInt64).toInt32).toInt8.toInt32)).toInt ∧ (nar .byte ((((x1.toUInt64 >>> ((16 : Int32) &&& 0x3f).toInt64.toUInt64).toInt64).toInt32).toInt8.toInt32)).toInt < 128 from c_i2b ((((x1.toUInt64 >>> ((16 : Int32) &&& 0x3f).toInt64.toUInt64).toInt64).toInt32).toInt8.toInt32))
    have q12 := c_lushr x1 (24 : Int32) 24 (by decide) (by decide)
    have q13 := c_l2i ((x1.toUInt64 >>> ((24 : Int32) &&& 0x3f).toInt64.toUInt64).toInt64)
    have q14 := c_i2b (((x1.toUInt64 >>> ((24 : Int32) &&& 0x3f).toInt64.toUInt64).toInt64).toInt32)
    have q15 := (show ((nar .byte ((((x1.toUInt64 >>> ((24 : Int32) &&& 0x3f).toInt64.toUInt64).toInt64).toInt32).toInt8.toInt32)).toInt - ((((x1.toUInt64 >>> ((24 : Int32) &&& 0x3f).toInt64.toUInt64).toInt64).toInt32).toInt8.toInt32).toInt) % 256 = 0 ∧ -128 ≤ (nar .byte ((((x1.toUInt64 >>> ((24 : Int32) &&& 0x3f).toInt64.toUInt64).toInt64).toInt32).toInt8.toInt32)).toInt ∧ (nar .byte ((((x1.toUInt64 >>> ((24 : Int32) &&& 0x3f).toInt64.toUInt64).toInt64).toInt32).toInt8.toInt32)).toInt < 128 from c_i2b ((((x1.toUInt64 >>> ((24 : Int32) &&& 0x3f).toInt64.toUInt64).toInt64).toInt32).toInt8.toInt32))
    have q16 := c_lushr x1 (32 : Int32) 32 (by decide) (by decide)
    have q17 := c_l2i ((x1.toUInt64 >>> ((32 : Int32) &&& 0x3f).toInt64.toUInt64).toInt64)
    have q18 := c_i2b (((x1.toUInt64 >>> ((32 : Int32) &&& 0x3f).toInt64.toUInt64).toInt64).toInt32)
    have q19 := (show ((nar .byte ((((x1.toUInt64 >>> ((32 : Int32) &&& 0x3f).toInt64.toUInt64).toInt64).toInt32).toInt8.toInt32)).toInt - ((((x1.toUInt64 >>> ((32 : Int32) &&& 0x3f).toInt64.toUInt64).toInt64).toInt32).toInt8.toInt32).toInt) % 256 = 0 ∧ -128 ≤ (nar .byte ((((x1.toUInt64 >>> ((32 : Int32) &&& 0x3f).toInt64.toUInt64).toInt64).toInt32).toInt8.toInt32)).toInt ∧ (nar .byte ((((x1.toUInt64 >>> ((32 : Int32) &&& 0x3f).toInt64.toUInt64).toInt64).toInt32).toInt8.toInt32)).toInt < 128 from c_i2b ((((x1.toUInt64 >>> ((32 : Int32) &&& 0x3f).toInt64.toUInt64).toInt64).toInt32).toInt8.toInt32))
    have q20 := c_lushr x1 (40 : Int32) 40 (by decide) (by decide)
    have q21 := c_l2i ((x1.toUInt64 >>> ((40 : Int32) &&& 0x3f).toInt64.toUInt64).toInt64)
    have q22 := c_i2b (((x1.toUInt64 >>> ((40 : Int32) &&& 0x3f).toInt64.toUInt64).toInt64).toInt32)
    have q23 := (show ((nar .byte ((((x1.toUInt64 >>> ((40 : Int32) &&& 0x3f).toInt64.toUInt64).toInt64).toInt32).toInt8.toInt32)).toInt - ((((x1.toUInt64 >>> ((40 : Int32) &&& 0x3f).toInt64.toUInt64).toInt64).toInt32).toInt8.toInt32).toInt) % 256 = 0 ∧ -128 ≤ (nar .byte ((((x1.toUInt64 >>> ((40 : Int32) &&& 0x3f).toInt64.toUInt64).toInt64).toInt32).toInt8.toInt32)).toInt ∧ (nar .byte ((((x1.toUInt64 >>> ((40 : Int32) &&& 0x3f).toInt64.toUInt64).toInt64).toInt32).toInt8.toInt32)).toInt < 128 from c_i2b ((((x1.toUInt64 >>> ((40 : Int32) &&& 0x3f).toInt64.toUInt64).toInt64).toInt32).toInt8.toInt32))
    have q24 := c_lushr x1 (48 : Int32) 48 (by decide) (by decide)
    have q25 := c_l2i ((x1.toUInt64 >>> ((48 : Int32) &&& 0x3f).toInt64.toUInt64).toInt64)
    have q26 := c_i2b (((x1.toUInt64 >>> ((48 : Int32) &&& 0x3f).toInt64.toUInt64).toInt64).toInt32)
    have q27 := (show ((nar .byte ((((x1.toUInt64 >>> ((48 : Int32) &&& 0x3f).toInt64.toUInt64).toInt64).toInt32).toInt8.toInt32)).toInt - ((((x1.toUInt64 >>> ((48 : Int32) &&& 0x3f).toInt64.toUInt64).toInt64).toInt32).toInt8.toInt32).toInt) % 256 = 0 ∧ -128 ≤ (nar .byte ((((x1.toUInt64 >>> ((48 : Int32) &&& 0x3f).toInt64.toUInt64).toInt64).toInt32).toInt8.toInt32)).toInt ∧ (nar .byte ((((x1.toUInt64 >>> ((48 : Int32) &&& 0x3f).toInt64.toUInt64).toInt64).toInt32).toInt8.toInt32)).toInt < 128 from c_i2b ((((x1.toUInt64 >>> ((48 : Int32) &&& 0x3f).toInt64.toUInt64).toInt64).toInt32).toInt8.toInt32))
    have q28 := c_lushr x1 (56 : Int32) 56 (by decide) (by decide)
    have q29 := c_l2i ((x1.toUInt64 >>> ((56 : Int32) &&& 0x3f).toInt64.toUInt64).toInt64)
    have q30 := c_i2b (((x1.toUInt64 >>> ((56 : Int32) &&& 0x3f).toInt64.toUInt64).toInt64).toInt32)
    have q31 := (show ((nar .byte ((((x1.toUInt64 >>> ((56 : Int32) &&& 0x3f).toInt64.toUInt64).toInt64).toInt32).toInt8.toInt32)).toInt - ((((x1.toUInt64 >>> ((56 : Int32) &&& 0x3f).toInt64.toUInt64).toInt64).toInt32).toInt8.toInt32).toInt) % 256 = 0 ∧ -128 ≤ (nar .byte ((((x1.toUInt64 >>> ((56 : Int32) &&& 0x3f).toInt64.toUInt64).toInt64).toInt32).toInt8.toInt32)).toInt ∧ (nar .byte ((((x1.toUInt64 >>> ((56 : Int32) &&& 0x3f).toInt64.toUInt64).toInt64).toInt32).toInt8.toInt32)).toInt < 128 from c_i2b ((((x1.toUInt64 >>> ((56 : Int32) &&& 0x3f).toInt64.toUInt64).toInt64).toInt32).toInt8.toInt32))
    have p0 := c77
    have p1 := c79
    have p2 := c81
    have p3 := c83
    have p4 := c90
    have p5 := c92
    have p6 := c94
    simp only [true_implies, Int32.lt_iff_toInt_lt, ← Int32.toInt_inj, Int32.reduceToInt, Int64.lt_iff_toInt_lt, ← Int64.toInt_inj, Int64.reduceToInt] at q0 q1 q2 q3 q4 q5 q6 q7 q8 q9 q10 q11 q12 q13 q14 q15 q16 q17 q18 q19 q20 q21 q22 q23 q24 q25 q26 q27 q28 q29 q30 q31 p0 p1 p2 p3 p4 p5 p6 ⊢
    omega
  refine own_stB X93 hx hZ e93 f93 (7 : Int32) ((((x1.toUInt64 >>> ((56 : Int32) &&& 0x3f).toInt64.toUInt64).toInt64).toInt32).toInt8.toInt32) ((((x1.toUInt64 >>> ((56 : Int32) &&& 0x3f).toInt64.toUInt64).toInt64).toInt32).toInt8.toInt32) 7 ⟨by decide, by decide⟩ rfl (Nat.le_of_ble_eq_true rfl) c96 [(.int ((x1.toInt32).toInt8.toInt32)), (.int ((((x1.toUInt64 >>> ((8 : Int32) &&& 0x3f).toInt64.toUInt64).toInt64).toInt32).toInt8.toInt32)), (.int ((((x1.toUInt64 >>> ((16 : Int32) &&& 0x3f).toInt64.toUInt64).toInt64).toInt32).toInt8.toInt32)), (.int ((((x1.toUInt64 >>> ((24 : Int32) &&& 0x3f).toInt64.toUInt64).toInt64).toInt32).toInt8.toInt32)), (.int ((((x1.toUInt64 >>> ((32 : Int32) &&& 0x3f).toInt64.toUInt64).toInt64).toInt32).toInt8.toInt32)), (.int ((((x1.toUInt64 >>> ((40 : Int32) &&& 0x3f).toInt64.toUInt64).toInt64).toInt32).toInt8.toInt32)), (.int ((((x1.toUInt64 >>> ((48 : Int32) &&& 0x3f).toInt64.toUInt64).toInt64).toInt32).toInt8.toInt32)), (.int ((((x1.toUInt64 >>> ((56 : Int32) &&& 0x3f).toInt64.toUInt64).toInt64).toInt32).toInt8.toInt32)), (.int (0 : Int32)), (.int (0 : Int32)), (.int (0 : Int32)), (.int (0 : Int32)), (.int (0 : Int32)), (.int (0 : Int32)), (.int (0 : Int32)), (.int (0 : Int32))] rfl N93 ge73 (hb hby at_146) ?_
  intro T95 h95 L95 X95 e95 W95 N95 f95
  show own_Go p e below _ (T95.setTop (mkF m 147 #[.val (.int x0), .val (.long x1), .second, .val (.long x2), .second, .val (.int x3), .val (.int (1 : Int32)), .val (.int (x3 &&& (65535 : Int32))), .val (.ref b68), .val (.ref b71), .unset, .unset, .unset, .unset, .unset] []))
  refine own_go (fun _ hr => XS.aload X95.here hx rfl (hb hby at_147) rfl rfl (XS.bipush X95.here hx rfl (hb hby at_149) (XS.lloadN X95.here hx rfl (hb hby at_151) rfl (XS.l2i X95.here hx rfl (hb hby at_152) rfl (XS.i2b X95.here hx rfl (hb hby at_153) rfl hr))))) ?_
  show own_Go p e below _ (T95.setTop (mkF m 154 #[.val (.int x0), .val (.long x1), .second, .val (.long x2), .second, .val (.int x3), .val (.int (1 : Int32)), .val (.int (x3 &&& (65535 : Int32))), .val (.ref b68), .val (.ref b71), .unset, .unset, .unset, .unset, .unset] [(.int ((x2.toInt32).toInt8.toInt32)), (.int (8 : Int32)), (.ref b71)]))
  have c98 : (nar .byte ((x2.toInt32).toInt8.toInt32)) = ((x2.toInt32).toInt8.toInt32) := by
    have q0 := rng64 x2
    have q1 := c_l2i x2
    have q2 := c_i2b (x2.toInt32)
    have q3 := (show ((nar .byte ((x2.toInt32).toInt8.toInt32)).toInt - ((x2.toInt32).toInt8.toInt32).toInt) % 256 = 0 ∧ -128 ≤ (nar .byte ((x2.toInt32).toInt8.toInt32)).toInt ∧ (nar .byte ((x2.toInt32).toInt8.toInt32)).toInt < 128 from c_i2b ((x2.toInt32).toInt8.toInt32))
    simp only [true_implies, Int32.lt_iff_toInt_lt, ← Int32.toInt_inj, Int32.reduceToInt, Int64.lt_iff_toInt_lt, ← Int64.toInt_inj, Int64.reduceToInt] at q0 q1 q2 q3 ⊢
    omega
  refine own_stB X95 hx hZ e95 f95 (8 : Int32) ((x2.toInt32).toInt8.toInt32) ((x2.toInt32).toInt8.toInt32) 8 ⟨by decide, by decide⟩ rfl (Nat.le_of_ble_eq_true rfl) c98 [(.int ((x1.toInt32).toInt8.toInt32)), (.int ((((x1.toUInt64 >>> ((8 : Int32) &&& 0x3f).toInt64.toUInt64).toInt64).toInt32).toInt8.toInt32)), (.int ((((x1.toUInt64 >>> ((16 : Int32) &&& 0x3f).toInt64.toUInt64).toInt64).toInt32).toInt8.toInt32)), (.int ((((x1.toUInt64 >>> ((24 : Int32) &&& 0x3f).toInt64.toUInt64).toInt64).toInt32).toInt8.toInt32)), (.int ((((x1.toUInt64 >>> ((32 : Int32) &&& 0x3f).toInt64.toUInt64).toInt64).toInt32).toInt8.toInt32)), (.int ((((x1.toUInt64 >>> ((40 : Int32) &&& 0x3f).toInt64.toUInt64).toInt64).toInt32).toInt8.toInt32)), (.int ((((x1.toUInt64 >>> ((48 : Int32) &&& 0x3f).toInt64.toUInt64).toInt64).toInt32).toInt8.toInt32)), (.int ((((x1.toUInt64 >>> ((56 : Int32) &&& 0x3f).toInt64.toUInt64).toInt64).toInt32).toInt8.toInt32)), (.int ((x2.toInt32).toInt8.toInt32)), (.int (0 : Int32)), (.int (0 : Int32)), (.int (0 : Int32)), (.int (0 : Int32)), (.int (0 : Int32)), (.int (0 : Int32)), (.int (0 : Int32))] rfl N95 ge73 (hb hby at_154) ?_
  intro T97 h97 L97 X97 e97 W97 N97 f97
  show own_Go p e below _ (T97.setTop (mkF m 155 #[.val (.int x0), .val (.long x1), .second, .val (.long x2), .second, .val (.int x3), .val (.int (1 : Int32)), .val (.int (x3 &&& (65535 : Int32))), .val (.ref b68), .val (.ref b71), .unset, .unset, .unset, .unset, .unset] []))
  refine own_go (fun _ hr => XS.aload X97.here hx rfl (hb hby at_155) rfl rfl (XS.bipush X97.here hx rfl (hb hby at_157) (XS.lloadN X97.here hx rfl (hb hby at_159) rfl (XS.bipush X97.here hx rfl (hb hby at_160) (XS.lushr X97.here hx rfl (hb hby at_162) rfl (XS.l2i X97.here hx rfl (hb hby at_163) rfl (XS.i2b X97.here hx rfl (hb hby at_164) rfl hr))))))) ?_
  show own_Go p e below _ (T97.setTop (mkF m 165 #[.val (.int x0), .val (.long x1), .second, .val (.long x2), .second, .val (.int x3), .val (.int (1 : Int32)), .val (.int (x3 &&& (65535 : Int32))), .val (.ref b68), .val (.ref b71), .unset, .unset, .unset, .unset, .unset] [(.int ((((x2.toUInt64 >>> ((8 : Int32) &&& 0x3f).toInt64.toUInt64).toInt64).toInt32).toInt8.toInt32)), (.int (9 : Int32)), (.ref b71)]))
  have c100 : (nar .byte ((((x2.toUInt64 >>> ((8 : Int32) &&& 0x3f).toInt64.toUInt64).toInt64).toInt32).toInt8.toInt32)) = ((((x2.toUInt64 >>> ((8 : Int32) &&& 0x3f).toInt64.toUInt64).toInt64).toInt32).toInt8.toInt32) := by
    have q0 := rng64 x2
    have q1 := c_l2i x2
    have q2 := c_i2b (x2.toInt32)
    have q3 := (show ((nar .byte ((x2.toInt32).toInt8.toInt32)).toInt - ((x2.toInt32).toInt8.toInt32).toInt) % 256 = 0 ∧ -128 ≤ (nar .byte ((x2.toInt32).toInt8.toInt32)).toInt ∧ (nar .byte ((x2.toInt32).toInt8.toInt32)).toInt < 128 from c_i2b ((x2.toInt32).toInt8.toInt32))
    have q4 := c_lushr x2 (8 : Int32) 8 (by decide) (by decide)
    have q5 := c_l2i ((x2.toUInt64 >>> ((8 : Int32) &&& 0x3f).toInt64.toUInt64).toInt64)
    have q6 := c_i2b (((x2.toUInt64 >>> ((8 : Int32) &&& 0x3f).toInt64.toUInt64).toInt64).toInt32)
    have q7 := (show ((nar .byte ((((x2.toUInt64 >>> ((8 : Int32) &&& 0x3f).toInt64.toUInt64).toInt64).toInt32).toInt8.toInt32)).toInt - ((((x2.toUInt64 >>> ((8 : Int32) &&& 0x3f).toInt64.toUInt64).toInt64).toInt32).toInt8.toInt32).toInt) % 256 = 0 ∧ -128 ≤ (nar .byte ((((x2.toUInt64 >>> ((8 : Int32) &&& 0x3f).toInt64.toUInt64).toInt64).toInt32).toInt8.toInt32)).toInt ∧ (nar .byte ((((x2.toUInt64 >>> ((8 : Int32) &&& 0x3f).toInt64.toUInt64).toInt64).toInt32).toInt8.toInt32)).toInt < 128 from c_i2b ((((x2.toUInt64 >>> ((8 : Int32) &&& 0x3f).toInt64.toUInt64).toInt64).toInt32).toInt8.toInt32))
    have p0 := c98
    simp only [true_implies, Int32.lt_iff_toInt_lt, ← Int32.toInt_inj, Int32.reduceToInt, Int64.lt_iff_toInt_lt, ← Int64.toInt_inj, Int64.reduceToInt] at q0 q1 q2 q3 q4 q5 q6 q7 p0 ⊢
    omega
  refine own_stB X97 hx hZ e97 f97 (9 : Int32) ((((x2.toUInt64 >>> ((8 : Int32) &&& 0x3f).toInt64.toUInt64).toInt64).toInt32).toInt8.toInt32) ((((x2.toUInt64 >>> ((8 : Int32) &&& 0x3f).toInt64.toUInt64).toInt64).toInt32).toInt8.toInt32) 9 ⟨by decide, by decide⟩ rfl (Nat.le_of_ble_eq_true rfl) c100 [(.int ((x1.toInt32).toInt8.toInt32)), (.int ((((x1.toUInt64 >>> ((8 : Int32) &&& 0x3f).toInt64.toUInt64).toInt64).toInt32).toInt8.toInt32)), (.int ((((x1.toUInt64 >>> ((16 : Int32) &&& 0x3f).toInt64.toUInt64).toInt64).toInt32).toInt8.toInt32)), (.int ((((x1.toUInt64 >>> ((24 : Int32) &&& 0x3f).toInt64.toUInt64).toInt64).toInt32).toInt8.toInt32)), (.int ((((x1.toUInt64 >>> ((32 : Int32) &&& 0x3f).toInt64.toUInt64).toInt64).toInt32).toInt8.toInt32)), (.int ((((x1.toUInt64 >>> ((40 : Int32) &&& 0x3f).toInt64.toUInt64).toInt64).toInt32).toInt8.toInt32)), (.int ((((x1.toUInt64 >>> ((48 : Int32) &&& 0x3f).toInt64.toUInt64).toInt64).toInt32).toInt8.toInt32)), (.int ((((x1.toUInt64 >>> ((56 : Int32) &&& 0x3f).toInt64.toUInt64).toInt64).toInt32).toInt8.toInt32)), (.int ((x2.toInt32).toInt8.toInt32)), (.int ((((x2.toUInt64 >>> ((8 : Int32) &&& 0x3f).toInt64.toUInt64).toInt64).toInt32).toInt8.toInt32)), (.int (0 : Int32)), (.int (0 : Int32)), (.int (0 : Int32)), (.int (0 : Int32)), (.int (0 : Int32)), (.int (0 : Int32))] rfl N97 ge73 (hb hby at_165) ?_
  intro T99 h99 L99 X99 e99 W99 N99 f99
  show own_Go p e below _ (T99.setTop (mkF m 166 #[.val (.int x0), .val (.long x1), .second, .val (.long x2), .second, .val (.int x3), .val (.int (1 : Int32)), .val (.int (x3 &&& (65535 : Int32))), .val (.ref b68), .val (.ref b71), .unset, .unset, .unset, .unset, .unset] []))
  refine own_go (fun _ hr => XS.aload X99.here hx rfl (hb hby at_166) rfl rfl (XS.bipush X99.here hx rfl (hb hby at_168) (XS.lloadN X99.here hx rfl (hb hby at_170) rfl (XS.bipush X99.here hx rfl (hb hby at_171) (XS.lushr X99.here hx rfl (hb hby at_173) rfl (XS.l2i X99.here hx rfl (hb hby at_174) rfl (XS.i2b X99.here hx rfl (hb hby at_175) rfl hr))))))) ?_
  show own_Go p e below _ (T99.setTop (mkF m 176 #[.val (.int x0), .val (.long x1), .second, .val (.long x2), .second, .val (.int x3), .val (.int (1 : Int32)), .val (.int (x3 &&& (65535 : Int32))), .val (.ref b68), .val (.ref b71), .unset, .unset, .unset, .unset, .unset] [(.int ((((x2.toUInt64 >>> ((16 : Int32) &&& 0x3f).toInt64.toUInt64).toInt64).toInt32).toInt8.toInt32)), (.int (10 : Int32)), (.ref b71)]))
  have c102 : (nar .byte ((((x2.toUInt64 >>> ((16 : Int32) &&& 0x3f).toInt64.toUInt64).toInt64).toInt32).toInt8.toInt32)) = ((((x2.toUInt64 >>> ((16 : Int32) &&& 0x3f).toInt64.toUInt64).toInt64).toInt32).toInt8.toInt32) := by
    have q0 := rng64 x2
    have q1 := c_l2i x2
    have q2 := c_i2b (x2.toInt32)
    have q3 := (show ((nar .byte ((x2.toInt32).toInt8.toInt32)).toInt - ((x2.toInt32).toInt8.toInt32).toInt) % 256 = 0 ∧ -128 ≤ (nar .byte ((x2.toInt32).toInt8.toInt32)).toInt ∧ (nar .byte ((x2.toInt32).toInt8.toInt32)).toInt < 128 from c_i2b ((x2.toInt32).toInt8.toInt32))
    have q4 := c_lushr x2 (8 : Int32) 8 (by decide) (by decide)
    have q5 := c_l2i ((x2.toUInt64 >>> ((8 : Int32) &&& 0x3f).toInt64.toUInt64).toInt64)
    have q6 := c_i2b (((x2.toUInt64 >>> ((8 : Int32) &&& 0x3f).toInt64.toUInt64).toInt64).toInt32)
    have q7 := (show ((nar .byte ((((x2.toUInt64 >>> ((8 : Int32) &&& 0x3f).toInt64.toUInt64).toInt64).toInt32).toInt8.toInt32)).toInt - ((((x2.toUInt64 >>> ((8 : Int32) &&& 0x3f).toInt64.toUInt64).toInt64).toInt32).toInt8.toInt32).toInt) % 256 = 0 ∧ -128 ≤ (nar .byte ((((x2.toUInt64 >>> ((8 : Int32) &&& 0x3f).toInt64.toUInt64).toInt64).toInt32).toInt8.toInt32)).toInt ∧ (nar .byte ((((x2.toUInt64 >>> ((8 : Int32) &&& 0x3f).toInt64.toUInt64).toInt64).toInt32).toInt8.toInt32)).toInt < 128 from c_i2b ((((x2.toUInt64 >>> ((8 : Int32) &&& 0x3f).toInt64.toUInt64).toInt64).toInt32).toInt8.toInt32))
    have q8 := c_lushr x2 (16 : Int32) 16 (by decide) (by decide)
    have q9 := c_l2i ((x2.toUInt64 >>> ((16 : Int32) &&& 0x3f).toInt64.toUInt64).toInt64)
    have q10 := c_i2b (((x2.toUInt64 >>> ((16 : Int32) &&& 0x3f).toInt64.toUInt64).toInt64).toInt32)
    have q11 := (show ((nar .byte ((((x2.toUInt64 >>> ((16 : Int32) &&& 0x3f).toInt64.toUInt64).toInt64).toInt32).toInt8.toInt32)).toInt - ((((x2.toUInt64 >>> ((16 : Int32) &&& 0x3f).toInt64.toUInt64).toInt64).toInt32).toInt8.toInt32).toInt) % 256 = 0 ∧ -128 ≤ (nar .byte ((((x2.toUInt64 >>> ((16 : Int32) &&& 0x3f).toInt64.toUInt64).toInt64).toInt32).toInt8.toInt32)).toInt ∧ (nar .byte ((((x2.toUInt64 >>> ((16 : Int32) &&& 0x3f).toInt64.toUInt64).toInt64).toInt32).toInt8.toInt32)).toInt < 128 from c_i2b ((((x2.toUInt64 >>> ((16 : Int32) &&& 0x3f).toInt64.toUInt64).toInt64).toInt32).toInt8.toInt32))
    have p0 := c98
    have p1 := c100
    simp only [true_implies, Int32.lt_iff_toInt_lt, ← Int32.toInt_inj, Int32.reduceToInt, Int64.lt_iff_toInt_lt, ← Int64.toInt_inj, Int64.reduceToInt] at q0 q1 q2 q3 q4 q5 q6 q7 q8 q9 q10 q11 p0 p1 ⊢
    omega
  refine own_stB X99 hx hZ e99 f99 (10 : Int32) ((((x2.toUInt64 >>> ((16 : Int32) &&& 0x3f).toInt64.toUInt64).toInt64).toInt32).toInt8.toInt32) ((((x2.toUInt64 >>> ((16 : Int32) &&& 0x3f).toInt64.toUInt64).toInt64).toInt32).toInt8.toInt32) 10 ⟨by decide, by decide⟩ rfl (Nat.le_of_ble_eq_true rfl) c102 [(.int ((x1.toInt32).toInt8.toInt32)), (.int ((((x1.toUInt64 >>> ((8 : Int32) &&& 0x3f).toInt64.toUInt64).toInt64).toInt32).toInt8.toInt32)), (.int ((((x1.toUInt64 >>> ((16 : Int32) &&& 0x3f).toInt64.toUInt64).toInt64).toInt32).toInt8.toInt32)), (.int ((((x1.toUInt64 >>> ((24 : Int32) &&& 0x3f).toInt64.toUInt64).toInt64).toInt32).toInt8.toInt32)), (.int ((((x1.toUInt64 >>> ((32 : Int32) &&& 0x3f).toInt64.toUInt64).toInt64).toInt32).toInt8.toInt32)), (.int ((((x1.toUInt64 >>> ((40 : Int32) &&& 0x3f).toInt64.toUInt64).toInt64).toInt32).toInt8.toInt32)), (.int ((((x1.toUInt64 >>> ((48 : Int32) &&& 0x3f).toInt64.toUInt64).toInt64).toInt32).toInt8.toInt32)), (.int ((((x1.toUInt64 >>> ((56 : Int32) &&& 0x3f).toInt64.toUInt64).toInt64).toInt32).toInt8.toInt32)), (.int ((x2.toInt32).toInt8.toInt32)), (.int ((((x2.toUInt64 >>> ((8 : Int32) &&& 0x3f).toInt64.toUInt64).toInt64).toInt32).toInt8.toInt32)), (.int ((((x2.toUInt64 >>> ((16 : Int32) &&& 0x3f).toInt64.toUInt64).toInt64).toInt32).toInt8.toInt32)), (.int (0 : Int32)), (.int (0 : Int32)), (.int (0 : Int32)), (.int (0 : Int32)), (.int (0 : Int32))] rfl N99 ge73 (hb hby at_176) ?_
  intro T101 h101 L101 X101 e101 W101 N101 f101
  show own_Go p e below _ (T101.setTop (mkF m 177 #[.val (.int x0), .val (.long x1), .second, .val (.long x2), .second, .val (.int x3), .val (.int (1 : Int32)), .val (.int (x3 &&& (65535 : Int32))), .val (.ref b68), .val (.ref b71), .unset, .unset, .unset, .unset, .unset] []))
  refine own_go (fun _ hr => XS.aload X101.here hx rfl (hb hby at_177) rfl rfl (XS.bipush X101.here hx rfl (hb hby at_179) (XS.lloadN X101.here hx rfl (hb hby at_181) rfl (XS.bipush X101.here hx rfl (hb hby at_182) (XS.lushr X101.here hx rfl (hb hby at_184) rfl (XS.l2i X101.here hx rfl (hb hby at_185) rfl (XS.i2b X101.here hx rfl (hb hby at_186) rfl hr))))))) ?_
  show own_Go p e below _ (T101.setTop (mkF m 187 #[.val (.int x0), .val (.long x1), .second, .val (.long x2), .second, .val (.int x3), .val (.int (1 : Int32)), .val (.int (x3 &&& (65535 : Int32))), .val (.ref b68), .val (.ref b71), .unset, .unset, .unset, .unset, .unset] [(.int ((((x2.toUInt64 >>> ((24 : Int32) &&& 0x3f).toInt64.toUInt64).toInt64).toInt32).toInt8.toInt32)), (.int (11 : Int32)), (.ref b71)]))
  have c104 : (nar .byte ((((x2.toUInt64 >>> ((24 : Int32) &&& 0x3f).toInt64.toUInt64).toInt64).toInt32).toInt8.toInt32)) = ((((x2.toUInt64 >>> ((24 : Int32) &&& 0x3f).toInt64.toUInt64).toInt64).toInt32).toInt8.toInt32) := by
    have q0 := rng64 x2
    have q1 := c_l2i x2
    have q2 := c_i2b (x2.toInt32)
    have q3 := (show ((nar .byte ((x2.toInt32).toInt8.toInt32)).toInt - ((x2.toInt32).toInt8.toInt32).toInt) % 256 = 0 ∧ -128 ≤ (nar .byte ((x2.toInt32).toInt8.toInt32)).toInt ∧ (nar .byte ((x2.toInt32).toInt8.toInt32)).toInt < 128 from c_i2b ((x2.toInt32).toInt8.toInt32))
    have q4 := c_lushr x2 (8 : Int32) 8 (by decide) (by decide)
    have q5 := c_l2i ((x2.toUInt64 >>> ((8 : Int32) &&& 0x3f).toInt64.toUInt64).toInt64)
    have q6 := c_i2b (((x2.toUInt64 >>> ((8 : Int32) &&& 0x3f).toInt64.toUInt64).toInt64).toInt32)
    have q7 := (show ((nar .byte ((((x2.toUInt64 >>> ((8 : Int32) &&& 0x3f).toInt64.toUInt64).toInt64).toInt32).toInt8.toInt32)).toInt - ((((x2.toUInt64 >>> ((8 : Int32) &&& 0x3f).toInt64.toUInt64).toInt64).toInt32).toInt8.toInt32).toInt) % 256 = 0 ∧ -128 ≤ (nar .byte ((((x2.toUInt64 >>> ((8 : Int32) &&& 0x3f).toInt64.toUInt64).toInt64).toInt32).toInt8.toInt32)).toInt ∧ (nar .byte ((((x2.toUInt64 >>> ((8 : Int32) &&& 0x3f).toInt64.toUInt64).toInt64).toInt32).toInt8.toInt32)).toInt < 128 from c_i2b ((((x2.toUInt64 >>> ((8 : Int32) &&& 0x3f).toInt64.toUInt64).toInt64).toInt32).toInt8.toInt32))
    have q8 := c_lushr x2 (16 : Int32) 16 (by decide) (by decide)
    have q9 := c_l2i ((x2.toUInt64 >>> ((16 : Int32) &&& 0x3f).toInt64.toUInt64).toInt64)
    have q10 := c_i2b (((x2.toUInt64 >>> ((16 : Int32) &&& 0x3f).toInt64.toUInt64).toInt64).toInt32)
    have q11 := (show ((nar .byte ((((x2.toUInt64 >>> ((16 : Int32) &&& 0x3f).toInt64.toUInt64).toInt64).toInt32).toInt8.toInt32)).toInt - ((((x2.toUInt64 >>> ((16 : Int32) &&& 0x3f).toInt64.toUInt64).toInt64).toInt32).toInt8.toInt32).toInt) % 256 = 0 ∧ -128 ≤ (nar .byte ((((x2.toUInt64 >>> ((16 : Int32) &&& 0x3f).toInt64.toUInt64).toInt64).toInt32).toInt8.toInt32)).toInt ∧ (nar .byte ((((x2.toUInt64 >>> ((16 : Int32) &&& 0x3f).toInt64.toUInt64).toInt64).toInt32).toInt8.toInt32)).toInt < 128 from c_i2b ((((x2.toUInt64 >>> ((16 : Int32) &&& 0x3f).toInt64.toUInt64).toInt64).toInt32).toInt8.toInt32))
    have q12 := c_lushr x2 (24 : Int32) 24 (by decide) (by decide)
    have q13 := c_l2i ((x2.toUInt64 >>> ((24 : Int32) &&& 0x3f).toInt64.toUInt64).toInt64)
    have q14 := c_i2b (((x2.toUInt64 >>> ((24 : Int32) &&& 0x3f).toInt64.toUInt64).toInt64).toInt32)
    have q15 := (show ((nar .byte ((((x2.toUInt64 >>> ((24 : Int32) &&& 0x3f).toInt64.toUInt64).toInt64).toInt32).toInt8.toInt32)).toInt - ((((x2.toUInt64 >>> ((24 : Int32) &&& 0x3f).toInt64.toUInt64).toInt64).toInt32).toInt8.toInt32).toInt) % 256 = 0 ∧ -128 ≤ (nar .byte ((((x2.toUInt64 >>> ((24 : Int32) &&& 0x3f).toInt64.toUInt64).toInt64).toInt32).toInt8.toInt32)).toInt ∧ (nar .byte ((((x2.toUInt64 >>> ((24 : Int32) &&& 0x3f).toInt64.toUInt64).toInt64).toInt32).toInt8.toInt32)).toInt < 128 from c_i2b ((((x2.toUInt64 >>> ((24 : Int32) &&& 0x3f).toInt64.toUInt64).toInt64).toInt32).toInt8.toInt32))
    have p0 := c98
    have p1 := c100
    have p2 := c102
    simp only [true_implies, Int32.lt_iff_toInt_lt, ← Int32.toInt_inj, Int32.reduceToInt, Int64.lt_iff_toInt_lt, ← Int64.toInt_inj, Int64.reduceToInt] at q0 q1 q2 q3 q4 q5 q6 q7 q8 q9 q10 q11 q12 q13 q14 q15 p0 p1 p2 ⊢
    omega
  refine own_stB X101 hx hZ e101 f101 (11 : Int32) ((((x2.toUInt64 >>> ((24 : Int32) &&& 0x3f).toInt64.toUInt64).toInt64).toInt32).toInt8.toInt32) ((((x2.toUInt64 >>> ((24 : Int32) &&& 0x3f).toInt64.toUInt64).toInt64).toInt32).toInt8.toInt32) 11 ⟨by decide, by decide⟩ rfl (Nat.le_of_ble_eq_true rfl) c104 [(.int ((x1.toInt32).toInt8.toInt32)), (.int ((((x1.toUInt64 >>> ((8 : Int32) &&& 0x3f).toInt64.toUInt64).toInt64).toInt32).toInt8.toInt32)), (.int ((((x1.toUInt64 >>> ((16 : Int32) &&& 0x3f).toInt64.toUInt64).toInt64).toInt32).toInt8.toInt32)), (.int ((((x1.toUInt64 >>> ((24 : Int32) &&& 0x3f).toInt64.toUInt64).toInt64).toInt32).toInt8.toInt32)), (.int ((((x1.toUInt64 >>> ((32 : Int32) &&& 0x3f).toInt64.toUInt64).toInt64).toInt32).toInt8.toInt32)), (.int ((((x1.toUInt64 >>> ((40 : Int32) &&& 0x3f).toInt64.toUInt64).toInt64).toInt32).toInt8.toInt32)), (.int ((((x1.toUInt64 >>> ((48 : Int32) &&& 0x3f).toInt64.toUInt64).toInt64).toInt32).toInt8.toInt32)), (.int ((((x1.toUInt64 >>> ((56 : Int32) &&& 0x3f).toInt64.toUInt64).toInt64).toInt32).toInt8.toInt32)), (.int ((x2.toInt32).toInt8.toInt32)), (.int ((((x2.toUInt64 >>> ((8 : Int32) &&& 0x3f).toInt64.toUInt64).toInt64).toInt32).toInt8.toInt32)), (.int ((((x2.toUInt64 >>> ((16 : Int32) &&& 0x3f).toInt64.toUInt64).toInt64).toInt32).toInt8.toInt32)), (.int ((((x2.toUInt64 >>> ((24 : Int32) &&& 0x3f).toInt64.toUInt64).toInt64).toInt32).toInt8.toInt32)), (.int (0 : Int32)), (.int (0 : Int32)), (.int (0 : Int32)), (.int (0 : Int32))] rfl N101 ge73 (hb hby at_187) ?_
  intro T103 h103 L103 X103 e103 W103 N103 f103
  show own_Go p e below _ (T103.setTop (mkF m 188 #[.val (.int x0), .val (.long x1), .second, .val (.long x2), .second, .val (.int x3), .val (.int (1 : Int32)), .val (.int (x3 &&& (65535 : Int32))), .val (.ref b68), .val (.ref b71), .unset, .unset, .unset, .unset, .unset] []))
  refine own_go (fun _ hr => XS.aload X103.here hx rfl (hb hby at_188) rfl rfl (XS.bipush X103.here hx rfl (hb hby at_190) (XS.lloadN X103.here hx rfl (hb hby at_192) rfl (XS.bipush X103.here hx rfl (hb hby at_193) (XS.lushr X103.here hx rfl (hb hby at_195) rfl (XS.l2i X103.here hx rfl (hb hby at_196) rfl (XS.i2b X103.here hx rfl (hb hby at_197) rfl hr))))))) ?_
  show own_Go p e below _ (T103.setTop (mkF m 198 #[.val (.int x0), .val (.long x1), .second, .val (.long x2), .second, .val (.int x3), .val (.int (1 : Int32)), .val (.int (x3 &&& (65535 : Int32))), .val (.ref b68), .val (.ref b71), .unset, .unset, .unset, .unset, .unset] [(.int ((((x2.toUInt64 >>> ((32 : Int32) &&& 0x3f).toInt64.toUInt64).toInt64).toInt32).toInt8.toInt32)), (.int (12 : Int32)), (.ref b71)]))
  have c106 : (nar .byte ((((x2.toUInt64 >>> ((32 : Int32) &&& 0x3f).toInt64.toUInt64).toInt64).toInt32).toInt8.toInt32)) = ((((x2.toUInt64 >>> ((32 : Int32) &&& 0x3f).toInt64.toUInt64).toInt64).toInt32).toInt8.toInt32) := by
    have q0 := rng64 x2
    have q1 := c_l2i x2
    have q2 := c_i2b (x2.toInt32)
    have q3 := (show ((nar .byte ((x2.toInt32).toInt8.toInt32)).toInt - ((x2.toInt32).toInt8.toInt32).toInt) % 256 = 0 ∧ -128 ≤ (nar .byte ((x2.toInt32).toInt8.toInt32)).toInt ∧ (nar .byte ((x2.toInt32).toInt8.toInt32)).toInt < 128 from c_i2b ((x2.toInt32).toInt8.toInt32))
    have q4 := c_lushr x2 (8 : Int32) 8 (by decide) (by decide)
    have q5 := c_l2i ((x2.toUInt64 >>> ((8 : Int32) &&& 0x3f).toInt64.toUInt64).toInt64)
    have q6 := c_i2b (((x2.toUInt64 >>> ((8 : Int32) &&& 0x3f).toInt64.toUInt64).toInt64).toInt32)
    have q7 := (show ((nar .byte ((((x2.toUInt64 >>> ((8 : Int32) &&& 0x3f).toInt64.toUInt64).toInt64).toInt32).toInt8.toInt32)).toInt - ((((x2.toUInt64 >>> ((8 : Int32) &&& 0x3f).toInt64.toUInt64).toInt64).toInt32).toInt8.toInt32).toInt) % 256 = 0 ∧ -128 ≤ (nar .byte ((((x2.toUInt64 >>> ((8 : Int32) &&& 0x3f).toInt64.toUInt64).toInt64).toInt32).toInt8.toInt32)).toInt ∧ (nar .byte ((((x2.toUInt64 >>> ((8 : Int32) &&& 0x3f).toInt64.toUInt64).toInt64).toInt32).toInt8.toInt32)).toInt < 128 from c_i2b ((((x2.toUInt64 >>> ((8 : Int32) &&& 0x3f).toInt64.toUInt64).toInt64).toInt32).toInt8.toInt32))
    have q8 := c_lushr x2 (16 : Int32) 16 (by decide) (by decide)
    have q9 := c_l2i ((x2.toUInt64 >>> ((16 : Int32) &&& 0x3f).toInt64.toUInt64).toInt64)
    have q10 := c_i2b (((x2.toUInt64 >>> ((16 : Int32) &&& 0x3f).toInt64.toUInt64).toInt64).toInt32)
    have q11 := (show ((nar .byte ((((x2.toUInt64 >>> ((16 : Int32) &&& 0x3f).toInt64.toUInt64).toInt64).toInt32).toInt8.toInt32)).toInt - ((((x2.toUInt64 >>> ((16 : Int32) &&& 0x3f).toInt64.toUInt64).toInt64).toInt32).toInt8.toInt32).toInt) % 256 = 0 ∧ -128 ≤ (nar .byte ((((x2.toUInt64 >>> ((16 : Int32) &&& 0x3f).toInt64.toUInt64).toInt64).toInt32).toInt8.toInt32)).toInt ∧ (nar .byte ((((x2.toUInt64 >>> ((16 : Int32) &&& 0x3f).toInt64.toUInt64).toInt64).toInt32).toInt8.toInt32)).toInt < 128 from c_i2b ((((x2.toUInt64 >>> ((16 : Int32) &&& 0x3f).toInt64.toUInt64).toInt64).toInt32).toInt8.toInt32))
    have q12 := c_lushr x2 (24 : Int32) 24 (by decide) (by decide)
    have q13 := c_l2i ((x2.toUInt64 >>> ((24 : Int32) &&& 0x3f).toInt64.toUInt64).toInt64)
    have q14 := c_i2b (((x2.toUInt64 >>> ((24 : Int32) &&& 0x3f).toInt64.toUInt64).toInt64).toInt32)
    have q15 := (show ((nar .byte ((((x2.toUInt64 >>> ((24 : Int32) &&& 0x3f).toInt64.toUInt64).toInt64).toInt32).toInt8.toInt32)).toInt - ((((x2.toUInt64 >>> ((24 : Int32) &&& 0x3f).toInt64.toUInt64).toInt64).toInt32).toInt8.toInt32).toInt) % 256 = 0 ∧ -128 ≤ (nar .byte ((((x2.toUInt64 >>> ((24 : Int32) &&& 0x3f).toInt64.toUInt64).toInt64).toInt32).toInt8.toInt32)).toInt ∧ (nar .byte ((((x2.toUInt64 >>> ((24 : Int32) &&& 0x3f).toInt64.toUInt64).toInt64).toInt32).toInt8.toInt32)).toInt < 128 from c_i2b ((((x2.toUInt64 >>> ((24 : Int32) &&& 0x3f).toInt64.toUInt64).toInt64).toInt32).toInt8.toInt32))
    have q16 := c_lushr x2 (32 : Int32) 32 (by decide) (by decide)
    have q17 := c_l2i ((x2.toUInt64 >>> ((32 : Int32) &&& 0x3f).toInt64.toUInt64).toInt64)
    have q18 := c_i2b (((x2.toUInt64 >>> ((32 : Int32) &&& 0x3f).toInt64.toUInt64).toInt64).toInt32)
    have q19 := (show ((nar .byte ((((x2.toUInt64 >>> ((32 : Int32) &&& 0x3f).toInt64.toUInt64).toInt64).toInt32).toInt8.toInt32)).toInt - ((((x2.toUInt64 >>> ((32 : Int32) &&& 0x3f).toInt64.toUInt64).toInt64).toInt32).toInt8.toInt32).toInt) % 256 = 0 ∧ -128 ≤ (nar .byte ((((x2.toUInt64 >>> ((32 : Int32) &&& 0x3f).toInt64.toUInt64).toInt64).toInt32).toInt8.toInt32)).toInt ∧ (nar .byte ((((x2.toUInt64 >>> ((32 : Int32) &&& 0x3f).toInt64.toUInt64).toInt64).toInt32).toInt8.toInt32)).toInt < 128 from c_i2b ((((x2.toUInt64 >>> ((32 : Int32) &&& 0x3f).toInt64.toUInt64).toInt64).toInt32).toInt8.toInt32))
    have p0 := c98
    have p1 := c100
    have p2 := c102
    have p3 := c104
    simp only [true_implies, Int32.lt_iff_toInt_lt, ← Int32.toInt_inj, Int32.reduceToInt, Int64.lt_iff_toInt_lt, ← Int64.toInt_inj, Int64.reduceToInt] at q0 q1 q2 q3 q4 q5 q6 q7 q8 q9 q10 q11 q12 q13 q14 q15 q16 q17 q18 q19 p0 p1 p2 p3 ⊢
    omega
  refine own_stB X103 hx hZ e103 f103 (12 : Int32) ((((x2.toUInt64 >>> ((32 : Int32) &&& 0x3f).toInt64.toUInt64).toInt64).toInt32).toInt8.toInt32) ((((x2.toUInt64 >>> ((32 : Int32) &&& 0x3f).toInt64.toUInt64).toInt64).toInt32).toInt8.toInt32) 12 ⟨by decide, by decide⟩ rfl (Nat.le_of_ble_eq_true rfl) c106 [(.int ((x1.toInt32).toInt8.toInt32)), (.int ((((x1.toUInt64 >>> ((8 : Int32) &&& 0x3f).toInt64.toUInt64).toInt64).toInt32).toInt8.toInt32)), (.int ((((x1.toUInt64 >>> ((16 : Int32) &&& 0x3f).toInt64.toUInt64).toInt64).toInt32).toInt8.toInt32)), (.int ((((x1.toUInt64 >>> ((24 : Int32) &&& 0x3f).toInt64.toUInt64).toInt64).toInt32).toInt8.toInt32)), (.int ((((x1.toUInt64 >>> ((32 : Int32) &&& 0x3f).toInt64.toUInt64).toInt64).toInt32).toInt8.toInt32)), (.int ((((x1.toUInt64 >>> ((40 : Int32) &&& 0x3f).toInt64.toUInt64).toInt64).toInt32).toInt8.toInt32)), (.int ((((x1.toUInt64 >>> ((48 : Int32) &&& 0x3f).toInt64.toUInt64).toInt64).toInt32).toInt8.toInt32)), (.int ((((x1.toUInt64 >>> ((56 : Int32) &&& 0x3f).toInt64.toUInt64).toInt64).toInt32).toInt8.toInt32)), (.int ((x2.toInt32).toInt8.toInt32)), (.int ((((x2.toUInt64 >>> ((8 : Int32) &&& 0x3f).toInt64.toUInt64).toInt64).toInt32).toInt8.toInt32)), (.int ((((x2.toUInt64 >>> ((16 : Int32) &&& 0x3f).toInt64.toUInt64).toInt64).toInt32).toInt8.toInt32)), (.int ((((x2.toUInt64 >>> ((24 : Int32) &&& 0x3f).toInt64.toUInt64).toInt64).toInt32).toInt8.toInt32)), (.int ((((x2.toUInt64 >>> ((32 : Int32) &&& 0x3f).toInt64.toUInt64).toInt64).toInt32).toInt8.toInt32)), (.int (0 : Int32)), (.int (0 : Int32)), (.int (0 : Int32))] rfl N103 ge73 (hb hby at_198) ?_
  intro T105 h105 L105 X105 e105 W105 N105 f105
  show own_Go p e below _ (T105.setTop (mkF m 199 #[.val (.int x0), .val (.long x1), .second, .val (.long x2), .second, .val (.int x3), .val (.int (1 : Int32)), .val (.int (x3 &&& (65535 : Int32))), .val (.ref b68), .val (.ref b71), .unset, .unset, .unset, .unset, .unset] []))
  refine own_go (fun _ hr => XS.aload X105.here hx rfl (hb hby at_199) rfl rfl (XS.bipush X105.here hx rfl (hb hby at_201) (XS.lloadN X105.here hx rfl (hb hby at_203) rfl (XS.bipush X105.here hx rfl (hb hby at_204) (XS.lushr X105.here hx rfl (hb hby at_206) rfl (XS.l2i X105.here hx rfl (hb hby at_207) rfl (XS.i2b X105.here hx rfl (hb hby at_208) rfl hr))))))) ?_
  show own_Go p e below _ (T105.setTop (mkF m 209 #[.val (.int x0), .val (.long x1), .second, .val (.long x2), .second, .val (.int x3), .val (.int (1 : Int32)), .val (.int (x3 &&& (65535 : Int32))), .val (.ref b68), .val (.ref b71), .unset, .unset, .unset, .unset, .unset] [(.int ((((x2.toUInt64 >>> ((40 : Int32) &&& 0x3f).toInt64.toUInt64).toInt64).toInt32).toInt8.toInt32)), (.int (13 : Int32)), (.ref b71)]))
  have c108 : (nar .byte ((((x2.toUInt64 >>> ((40 : Int32) &&& 0x3f).toInt64.toUInt64).toInt64).toInt32).toInt8.toInt32)) = ((((x2.toUInt64 >>> ((40 : Int32) &&& 0x3f).toInt64.toUInt64).toInt64).toInt32).toInt8.toInt32) := by
    have q0 := rng64 x2
    have q1 := c_l2i x2
    have q2 := c_i2b (x2.toInt32)
    have q3 := (show ((nar .byte ((x2.toInt32).toInt8.toInt32)).toInt - ((x2.toInt32).toInt8.toInt32).toInt) % 256 = 0 ∧ -128 ≤ (nar .byte ((x2.toInt32).toInt8.toInt32)).toInt ∧ (nar .byte ((x2.toInt32).toInt8.toInt32)).toInt < 128 from c_i2b ((x2.toInt32).toInt8.toInt32))
    have q4 := c_lushr x2 (8 : Int32) 8 (by decide) (by decide)
    have q5 := c_l2i ((x2.toUInt64 >>> ((8 : Int32) &&& 0x3f).toInt64.toUInt64).toInt64)
    have q6 := c_i2b (((x2.toUInt64 >>> ((8 : Int32) &&& 0x3f).toInt64.toUInt64).toInt64).toInt32)
    have q7 := (show ((nar .byte ((((x2.toUInt64 >>> ((8 : Int32) &&& 0x3f).toInt64.toUInt64).toInt64).toInt32).toInt8.toInt32)).toInt - ((((x2.toUInt64 >>> ((8 : Int32) &&& 0x3f).toInt64.toUInt64).toInt64).toInt32).toInt8.toInt32).toInt) % 256 = 0 ∧ -128 ≤ (nar .byte ((((x2.toUInt64 >>> ((8 : Int32) &&& 0x3f).toInt64.toUInt64).toInt64).toInt32).toInt8.toInt32)).toInt ∧ (nar .byte ((((x2.toUInt64 >>> ((8 : Int32) &&& 0x3f).toInt64.toUInt64).toInt64).toInt32).toInt8.toInt32)).toInt < 128 from c_i2b ((((x2.toUInt64 >>> ((8 : Int32) &&& 0x3f).toInt64.toUInt64).toInt64).toInt32).toInt8.toInt32))
    have q8 := c_lushr x2 (16 : Int32) 16 (by decide) (by decide)
    have q9 := c_l2i ((x2.toUInt64 >>> ((16 : Int32) &&& 0x3f).toInt64.toUInt64).toInt64)
    have q10 := c_i2b (((x2.toUInt64 >>> ((16 : Int32) &&& 0x3f).toInt64.toUInt64).toInt64).toInt32)
    have q11 := (show ((nar .byte ((((x2.toUInt64 >>> ((16 : Int32) &&& 0x3f).toInt64.toUInt64).toInt64).toInt32).toInt8.toInt32)).toInt - ((((x2.toUInt64 >>> ((16 : Int32) &&& 0x3f).toInt64.toUInt64).toInt64).toInt32).toInt8.toInt32).toInt) % 256 = 0 ∧ -128 ≤ (nar .byte ((((x2.toUInt64 >>> ((16 : Int32) &&& 0x3f).toInt64.toUInt64).toInt64).toInt32).toInt8.toInt32)).toInt ∧ (nar .byte ((((x2.toUInt64 >>> ((16 : Int32) &&& 0x3f).toInt64.toUInt64).toInt64).toInt32).toInt8.toInt32)).toInt < 128 from c_i2b ((((x2.toUInt64 >>> ((16 : Int32) &&& 0x3f).toInt64.toUInt64).toInt64).toInt32).toInt8.toInt32))
    have q12 := c_lushr x2 (24 : Int32) 24 (by decide) (by decide)
    have q13 := c_l2i ((x2.toUInt64 >>> ((24 : Int32) &&& 0x3f).toInt64.toUInt64).toInt64)
    have q14 := c_i2b (((x2.toUInt64 >>> ((24 : Int32) &&& 0x3f).toInt64.toUInt64).toInt64).toInt32)
    have q15 := (show ((nar .byte ((((x2.toUInt64 >>> ((24 : Int32) &&& 0x3f).toInt64.toUInt64).toInt64).toInt32).toInt8.toInt32)).toInt - ((((x2.toUInt64 >>> ((24 : Int32) &&& 0x3f).toInt64.toUInt64).toInt64).toInt32).toInt8.toInt32).toInt) % 256 = 0 ∧ -128 ≤ (nar .byte ((((x2.toUInt64 >>> ((24 : Int32) &&& 0x3f).toInt64.toUInt64).toInt64).toInt32).toInt8.toInt32)).toInt ∧ (nar .byte ((((x2.toUInt64 >>> ((24 : Int32) &&& 0x3f).toInt64.toUInt64).toInt64).toInt32).toInt8.toInt32)).toInt < 128 from c_i2b ((((x2.toUInt64 >>> ((24 : Int32) &&& 0x3f).toInt64.toUInt64).toInt64).toInt32).toInt8.toInt32))
    have q16 := c_lushr x2 (32 : Int32) 32 (by decide) (by decide)
    have q17 := c_l2i ((x2.toUInt64 >>> ((32 : Int32) &&& 0x3f).toInt64.toUInt64).toInt64)
    have q18 := c_i2b (((x2.toUInt64 >>> ((32 : Int32) &&& 0x3f).toInt64.toUInt64).toInt64).toInt32)
    have q19 := (show ((nar .byte ((((x2.toUInt64 >>> ((32 : Int32) &&& 0x3f).toInt64.toUInt64).toInt64).toInt32).toInt8.toInt32)).toInt - ((((x2.toUInt64 >>> ((32 : Int32) &&& 0x3f).toInt64.toUInt64).toInt64).toInt32).toInt8.toInt32).toInt) % 256 = 0 ∧ -128 ≤ (nar .byte ((((x2.toUInt64 >>> ((32 : Int32) &&& 0x3f).toInt64.toUInt64).toInt64).toInt32).toInt8.toInt32)).toInt ∧ (nar .byte ((((x2.toUInt64 >>> ((32 : Int32) &&& 0x3f).toInt64.toUInt64).toInt64).toInt32).toInt8.toInt32)).toInt < 128 from c_i2b ((((x2.toUInt64 >>> ((32 : Int32) &&& 0x3f).toInt64.toUInt64).toInt64).toInt32).toInt8.toInt32))
    have q20 := c_lushr x2 (40 : Int32) 40 (by decide) (by decide)
    have q21 := c_l2i ((x2.toUInt64 >>> ((40 : Int32) &&& 0x3f).toInt64.toUInt64).toInt64)
    have q22 := c_i2b (((x2.toUInt64 >>> ((40 : Int32) &&& 0x3f).toInt64.toUInt64).toInt64).toInt32)
    have q23 := (show ((nar .byte ((((x2.toUInt64 >>> ((40 : Int32) &&& 0x3f).toInt64.toUInt64).toInt64).toInt32).toInt8.toInt32)).toInt - ((((x2.toUInt64 >>> ((40 : Int32) &&& 0x3f).toInt64.toUInt64).toInt64).toInt32).toInt8.toInt32).toInt) % 256 = 0 ∧ -128 ≤ (nar .byte ((((x2.toUInt64 >>> ((40 : Int32) &&& 0x3f).toInt64.toUInt64).toInt64).toInt32).toInt8.toInt32)).toInt ∧ (nar .byte ((((x2.toUInt64 >>> ((40 : Int32) &&& 0x3f).toInt64.toUInt64).toInt64).toInt32).toInt8.toInt32)).toInt < 128 from c_i2b ((((x2.toUInt64 >>> ((40 : Int32) &&& 0x3f).toInt64.toUInt64).toInt64).toInt32).toInt8.toInt32))
    have p0 := c98
    have p1 := c100
    have p2 := c102
    have p3 := c104
    have p4 := c106
    simp only [true_implies, Int32.lt_iff_toInt_lt, ← Int32.toInt_inj, Int32.reduceToInt, Int64.lt_iff_toInt_lt, ← Int64.toInt_inj, Int64.reduceToInt] at q0 q1 q2 q3 q4 q5 q6 q7 q8 q9 q10 q11 q12 q13 q14 q15 q16 q17 q18 q19 q20 q21 q22 q23 p0 p1 p2 p3 p4 ⊢
    omega
  refine own_stB X105 hx hZ e105 f105 (13 : Int32) ((((x2.toUInt64 >>> ((40 : Int32) &&& 0x3f).toInt64.toUInt64).toInt64).toInt32).toInt8.toInt32) ((((x2.toUInt64 >>> ((40 : Int32) &&& 0x3f).toInt64.toUInt64).toInt64).toInt32).toInt8.toInt32) 13 ⟨by decide, by decide⟩ rfl (Nat.le_of_ble_eq_true rfl) c108 [(.int ((x1.toInt32).toInt8.toInt32)), (.int ((((x1.toUInt64 >>> ((8 : Int32) &&& 0x3f).toInt64.toUInt64).toInt64).toInt32).toInt8.toInt32)), (.int ((((x1.toUInt64 >>> ((16 : Int32) &&& 0x3f).toInt64.toUInt64).toInt64).toInt32).toInt8.toInt32)), (.int ((((x1.toUInt64 >>> ((24 : Int32) &&& 0x3f).toInt64.toUInt64).toInt64).toInt32).toInt8.toInt32)), (.int ((((x1.toUInt64 >>> ((32 : Int32) &&& 0x3f).toInt64.toUInt64).toInt64).toInt32).toInt8.toInt32)), (.int ((((x1.toUInt64 >>> ((40 : Int32) &&& 0x3f).toInt64.toUInt64).toInt64).toInt32).toInt8.toInt32)), (.int ((((x1.toUInt64 >>> ((48 : Int32) &&& 0x3f).toInt64.toUInt64).toInt64).toInt32).toInt8.toInt32)), (.int ((((x1.toUInt64 >>> ((56 : Int32) &&& 0x3f).toInt64.toUInt64).toInt64).toInt32).toInt8.toInt32)), (.int ((x2.toInt32).toInt8.toInt32)), (.int ((((x2.toUInt64 >>> ((8 : Int32) &&& 0x3f).toInt64.toUInt64).toInt64).toInt32).toInt8.toInt32)), (.int ((((x2.toUInt64 >>> ((16 : Int32) &&& 0x3f).toInt64.toUInt64).toInt64).toInt32).toInt8.toInt32)), (.int ((((x2.toUInt64 >>> ((24 : Int32) &&& 0x3f).toInt64.toUInt64).toInt64).toInt32).toInt8.toInt32)), (.int ((((x2.toUInt64 >>> ((32 : Int32) &&& 0x3f).toInt64.toUInt64).toInt64).toInt32).toInt8.toInt32)), (.int ((((x2.toUInt64 >>> ((40 : Int32) &&& 0x3f).toInt64.toUInt64).toInt64).toInt32).toInt8.toInt32)), (.int (0 : Int32)), (.int (0 : Int32))] rfl N105 ge73 (hb hby at_209) ?_
  intro T107 h107 L107 X107 e107 W107 N107 f107
  show own_Go p e below _ (T107.setTop (mkF m 210 #[.val (.int x0), .val (.long x1), .second, .val (.long x2), .second, .val (.int x3), .val (.int (1 : Int32)), .val (.int (x3 &&& (65535 : Int32))), .val (.ref b68), .val (.ref b71), .unset, .unset, .unset, .unset, .unset] []))
  refine own_go (fun _ hr => XS.aload X107.here hx rfl (hb hby at_210) rfl rfl (XS.bipush X107.here hx rfl (hb hby at_212) (XS.lloadN X107.here hx rfl (hb hby at_214) rfl (XS.bipush X107.here hx rfl (hb hby at_215) (XS.lushr X107.here hx rfl (hb hby at_217) rfl (XS.l2i X107.here hx rfl (hb hby at_218) rfl (XS.i2b X107.here hx rfl (hb hby at_219) rfl hr))))))) ?_
  show own_Go p e below _ (T107.setTop (mkF m 220 #[.val (.int x0), .val (.long x1), .second, .val (.long x2), .second, .val (.int x3), .val (.int (1 : Int32)), .val (.int (x3 &&& (65535 : Int32))), .val (.ref b68), .val (.ref b71), .unset, .unset, .unset, .unset, .unset] [(.int ((((x2.toUInt64 >>> ((48 : Int32) &&& 0x3f).toInt64.toUInt64).toInt64).toInt32).toInt8.toInt32)), (.int (14 : Int32)), (.ref b71)]))
  have c110 : (nar .byte ((((x2.toUInt64 >>> ((48 : Int32) &&& 0x3f).toInt64.toUInt64).toInt64).toInt32).toInt8.toInt32)) = ((((x2.toUInt64 >>> ((48 : Int32) &&& 0x3f).toInt64.toUInt64).toInt64).toInt32).toInt8.toInt32) := by
    have q0 := rng64 x2
    have q1 := c_l2i x2
    have q2 := c_i2b (x2.toInt32)
    have q3 := (show ((nar .byte ((x2.toInt32).toInt8.toInt32)).toInt - ((x2.toInt32).toInt8.toInt32).toInt) % 256 = 0 ∧ -128 ≤ (nar .byte ((x2.toInt32).toInt8.toInt32)).toInt ∧ (nar .byte ((x2.toInt32).toInt8.toInt32)).toInt < 128 from c_i2b ((x2.toInt32).toInt8.toInt32))
    have q4 := c_lushr x2 (8 : Int32) 8 (by decide) (by decide)
    have q5 := c_l2i ((x2.toUInt64 >>> ((8 : Int32) &&& 0x3f).toInt64.toUInt64).toInt64)
    have q6 := c_i2b (((x2.toUInt64 >>> ((8 : Int32) &&& 0x3f).toInt64.toUInt64).toInt64).toInt32)
    have q7 := (show ((nar .byte ((((x2.toUInt64 >>> ((8 : Int32) &&& 0x3f).toInt64.toUInt64).toInt64).toInt32).toInt8.toInt32)).toInt - ((((x2.toUInt64 >>> ((8 : Int32) &&& 0x3f).toInt64.toUInt64).toInt64).toInt32).toInt8.toInt32).toInt) % 256 = 0 ∧ -128 ≤ (nar .byte ((((x2.toUInt64 >>> ((8 : Int32) &&& 0x3f).toInt64.toUInt64).toInt64).toInt32).toInt8.toInt32)).toInt ∧ (nar .byte ((((x2.toUInt64 >>> ((8 : Int32) &&& 0x3f).toInt64.toUInt64).toInt64).toInt32).toInt8.toInt32)).toInt < 128 from c_i2b ((((x2.toUInt64 >>> ((8 : Int32) &&& 0x3f).toInt64.toUInt64).toInt64).toInt32).toInt8.toInt32))
    have q8 := c_lushr x2 (16 : Int32) 16 (by decide) (by decide)
    have q9 := c_l2i ((x2.toUInt64 >>> ((16 : Int32) &&& 0x3f).toInt64.toUInt64).toInt64)
    have q10 := c_i2b (((x2.toUInt64 >>> ((16 : Int32) &&& 0x3f).toInt64.toUInt64).toInt64).toInt32)
    have q11 := (show ((nar .byte ((((x2.toUInt64 >>> ((16 : Int32) &&& 0x3f).toInt64.toUInt64).toInt64).toInt32).toInt8.toInt32)).toInt - ((((x2.toUInt64 >>> ((16 : Int32) &&& 0x3f).toInt64.toUInt64).toInt64).toInt32).toInt8.toInt32).toInt) % 256 = 0 ∧ -128 ≤ (nar .byte ((((x2.toUInt64 >>> ((16 : Int32) &&& 0x3f).toInt64.toUInt64).toInt64).toInt32).toInt8.toInt32)).toInt ∧ (nar .byte ((((x2.toUInt64 >>> ((16 : Int32) &&& 0x3f).toInt64.toUInt64).toInt64).toInt32).toInt8.toInt32)).toInt < 128 from c_i2b ((((x2.toUInt64 >>> ((16 : Int32) &&& 0x3f).toInt64.toUInt64).toInt64).toInt32).toInt8.toInt32))
    have q12 := c_lushr x2 (24 : Int32) 24 (by decide) (by decide)
    have q13 := c_l2i ((x2.toUInt64 >>> ((24 : Int32) &&& 0x3f).toInt64.toUInt64).toInt64)
    have q14 := c_i2b (((x2.toUInt64 >>> ((24 : Int32) &&& 0x3f).toInt64.toUInt64).toInt64).toInt32)
    have q15 := (show ((nar .byte ((((x2.toUInt64 >>> ((24 : Int32) &&& 0x3f).toInt64.toUInt64).toInt64).toInt32).toInt8.toInt32)).toInt - ((((x2.toUInt64 >>> ((24 : Int32) &&& 0x3f).toInt64.toUInt64).toInt64).toInt32).toInt8.toInt32).toInt) % 256 = 0 ∧ -128 ≤ (nar .byte ((((x2.toUInt64 >>> ((24 : Int32) &&& 0x3f).toInt64.toUInt64).toInt64).toInt32).toInt8.toInt32)).toInt ∧ (nar .byte ((((x2.toUInt64 >>> ((24 : Int32) &&& 0x3f).toInt64.toUInt64).toInt64).toInt32).toInt8.toInt32)).toInt < 128 from c_i2b ((((x2.toUInt64 >>> ((24 : Int32) &&& 0x3f).toInt64.toUInt64).toInt64).toInt32).toInt8.toInt32))
    have q16 := c_lushr x2 (32 : Int32) 32 (by decide) (by decide)
    have q17 := c_l2i ((x2.toUInt64 >>> ((32 : Int32) &&& 0x3f).toInt64.toUInt64).toInt64)
    have q18 := c_i2b (((x2.toUInt64 >>> ((32 : Int32) &&& 0x3f).toInt64.toUInt64).toInt64).toInt32)
    have q19 := (show ((nar .byte ((((x2.toUInt64 >>> ((32 : Int32) &&& 0x3f).toInt64.toUInt64).toInt64).toInt32).toInt8.toInt32)).toInt - ((((x2.toUInt64 >>> ((32 : Int32) &&& 0x3f).toInt64.toUInt64).toInt64).toInt32).toInt8.toInt32).toInt) % 256 = 0 ∧ -128 ≤ (nar .byte ((((x2.toUInt64 >>> ((32 : Int32) &&& 0x3f).toInt64.toUInt64).toInt64).toInt32).toInt8.toInt32)).toInt ∧ (nar .byte ((((x2.toUInt64 >>> ((32 : Int32) &&& 0x3f).toInt64.toUInt64).toInt64).toInt32).toInt8.toInt32)).toInt < 128 from c_i2b ((((x2.toUInt64 >>> ((32 : Int32) &&& 0x3f).toInt64.toUInt64).toInt64).toInt32).toInt8.toInt32))
    have q20 := c_lushr x2 (40 : Int32) 40 (by decide) (by decide)
    have q21 := c_l2i ((x2.toUInt64 >>> ((40 : Int32) &&& 0x3f).toInt64.toUInt64).toInt64)
    have q22 := c_i2b (((x2.toUInt64 >>> ((40 : Int32) &&& 0x3f).toInt64.toUInt64).toInt64).toInt32)
    have q23 := (show ((nar .byte ((((x2.toUInt64 >>> ((40 : Int32) &&& 0x3f).toInt64.toUInt64).toInt64).toInt32).toInt8.toInt32)).toInt - ((((x2.toUInt64 >>> ((40 : Int32) &&& 0x3f).toInt64.toUInt64).toInt64).toInt32).toInt8.toInt32).toInt) % 256 = 0 ∧ -128 ≤ (nar .byte ((((x2.toUInt64 >>> ((40 : Int32) &&& 0x3f).toInt64.toUInt64).toInt64).toInt32).toInt8.toInt32)).toInt ∧ (nar .byte ((((x2.toUInt64 >>> ((40 : Int32) &&& 0x3f).toInt64.toUInt64).toInt64).toInt32).toInt8.toInt32)).toInt < 128 from c_i2b ((((x2.toUInt64 >>> ((40 : Int32) &&& 0x3f).toInt64.toUInt64).toInt64).toInt32).toInt8.toInt32))
    have q24 := c_lushr x2 (48 : Int32) 48 (by decide) (by decide)
    have q25 := c_l2i ((x2.toUInt64 >>> ((48 : Int32) &&& 0x3f).toInt64.toUInt64).toInt64)
    have q26 := c_i2b (((x2.toUInt64 >>> ((48 : Int32) &&& 0x3f).toInt64.toUInt64).toInt64).toInt32)
    have q27 := (show ((nar .byte ((((x2.toUInt64 >>> ((48 : Int32) &&& 0x3f).toInt64.toUInt64).toInt64).toInt32).toInt8.toInt32)).toInt - ((((x2.toUInt64 >>> ((48 : Int32) &&& 0x3f).toInt64.toUInt64).toInt64).toInt32).toInt8.toInt32).toInt) % 256 = 0 ∧ -128 ≤ (nar .byte ((((x2.toUInt64 >>> ((48 : Int32) &&& 0x3f).toInt64.toUInt64).toInt64).toInt32).toInt8.toInt32)).toInt ∧ (nar .byte ((((x2.toUInt64 >>> ((48 : Int32) &&& 0x3f).toInt64.toUInt64).toInt64).toInt32).toInt8.toInt32)).toInt < 128 from c_i2b ((((x2.toUInt64 >>> ((48 : Int32) &&& 0x3f).toInt64.toUInt64).toInt64).toInt32).toInt8.toInt32))
    have p0 := c98
    have p1 := c100
    have p2 := c102
    have p3 := c104
    have p4 := c106
    have p5 := c108
    simp only [true_implies, Int32.lt_iff_toInt_lt, ← Int32.toInt_inj, Int32.reduceToInt, Int64.lt_iff_toInt_lt, ← Int64.toInt_inj, Int64.reduceToInt] at q0 q1 q2 q3 q4 q5 q6 q7 q8 q9 q10 q11 q12 q13 q14 q15 q16 q17 q18 q19 q20 q21 q22 q23 q24 q25 q26 q27 p0 p1 p2 p3 p4 p5 ⊢
    omega
  refine own_stB X107 hx hZ e107 f107 (14 : Int32) ((((x2.toUInt64 >>> ((48 : Int32) &&& 0x3f).toInt64.toUInt64).toInt64).toInt32).toInt8.toInt32) ((((x2.toUInt64 >>> ((48 : Int32) &&& 0x3f).toInt64.toUInt64).toInt64).toInt32).toInt8.toInt32) 14 ⟨by decide, by decide⟩ rfl (Nat.le_of_ble_eq_true rfl) c110 [(.int ((x1.toInt32).toInt8.toInt32)), (.int ((((x1.toUInt64 >>> ((8 : Int32) &&& 0x3f).toInt64.toUInt64).toInt64).toInt32).toInt8.toInt32)), (.int ((((x1.toUInt64 >>> ((16 : Int32) &&& 0x3f).toInt64.toUInt64).toInt64).toInt32).toInt8.toInt32)), (.int ((((x1.toUInt64 >>> ((24 : Int32) &&& 0x3f).toInt64.toUInt64).toInt64).toInt32).toInt8.toInt32)), (.int ((((x1.toUInt64 >>> ((32 : Int32) &&& 0x3f).toInt64.toUInt64).toInt64).toInt32).toInt8.toInt32)), (.int ((((x1.toUInt64 >>> ((40 : Int32) &&& 0x3f).toInt64.toUInt64).toInt64).toInt32).toInt8.toInt32)), (.int ((((x1.toUInt64 >>> ((48 : Int32) &&& 0x3f).toInt64.toUInt64).toInt64).toInt32).toInt8.toInt32)), (.int ((((x1.toUInt64 >>> ((56 : Int32) &&& 0x3f).toInt64.toUInt64).toInt64).toInt32).toInt8.toInt32)), (.int ((x2.toInt32).toInt8.toInt32)), (.int ((((x2.toUInt64 >>> ((8 : Int32) &&& 0x3f).toInt64.toUInt64).toInt64).toInt32).toInt8.toInt32)), (.int ((((x2.toUInt64 >>> ((16 : Int32) &&& 0x3f).toInt64.toUInt64).toInt64).toInt32).toInt8.toInt32)), (.int ((((x2.toUInt64 >>> ((24 : Int32) &&& 0x3f).toInt64.toUInt64).toInt64).toInt32).toInt8.toInt32)), (.int ((((x2.toUInt64 >>> ((32 : Int32) &&& 0x3f).toInt64.toUInt64).toInt64).toInt32).toInt8.toInt32)), (.int ((((x2.toUInt64 >>> ((40 : Int32) &&& 0x3f).toInt64.toUInt64).toInt64).toInt32).toInt8.toInt32)), (.int ((((x2.toUInt64 >>> ((48 : Int32) &&& 0x3f).toInt64.toUInt64).toInt64).toInt32).toInt8.toInt32)), (.int (0 : Int32))] rfl N107 ge73 (hb hby at_220) ?_
  intro T109 h109 L109 X109 e109 W109 N109 f109
  show own_Go p e below _ (T109.setTop (mkF m 221 #[.val (.int x0), .val (.long x1), .second, .val (.long x2), .second, .val (.int x3), .val (.int (1 : Int32)), .val (.int (x3 &&& (65535 : Int32))), .val (.ref b68), .val (.ref b71), .unset, .unset, .unset, .unset, .unset] []))
  refine own_go (fun _ hr => XS.aload X109.here hx rfl (hb hby at_221) rfl rfl (XS.bipush X109.here hx rfl (hb hby at_223) (XS.lloadN X109.here hx rfl (hb hby at_225) rfl (XS.bipush X109.here hx rfl (hb hby at_226) (XS.lushr X109.here hx rfl (hb hby at_228) rfl (XS.l2i X109.here hx rfl (hb hby at_229) rfl (XS.i2b X109.here hx rfl (hb hby at_230) rfl hr))))))) ?_
  show own_Go p e below _ (T109.setTop (mkF m 231 #[.val (.int x0), .val (.long x1), .second, .val (.long x2), .second, .val (.int x3), .val (.int (1 : Int32)), .val (.int (x3 &&& (65535 : Int32))), .val (.ref b68), .val (.ref b71), .unset, .unset, .unset, .unset, .unset] [(.int ((((x2.toUInt64 >>> ((56 : Int32) &&& 0x3f).toInt64.toUInt64).toInt64).toInt32).toInt8.toInt32)), (.int (15 : Int32)), (.ref b71)]))
  have c112 : (nar .byte ((((x2.toUInt64 >>> ((56 : Int32) &&& 0x3f).toInt64.toUInt64).toInt64).toInt32).toInt8.toInt32)) = ((((x2.toUInt64 >>> ((56 : Int32) &&& 0x3f).toInt64.toUInt64).toInt64).toInt32).toInt8.toInt32) := by
    have q0 := rng64 x2
    have q1 := c_l2i x2
    have q2 := c_i2b (x2.toInt32)
    have q3 := (show ((nar .byte ((x2.toInt32).toInt8.toInt32)).toInt - ((x2.toInt32).toInt8.toInt32).toInt) % 256 = 0 ∧ -128 ≤ (nar .byte ((x2.toInt32).toInt8.toInt32)).toInt ∧ (nar .byte ((x2.toInt32).toInt8.toInt32)).toInt < 128 from c_i2b ((x2.toInt32).toInt8.toInt32))
    have q4 := c_lushr x2 (8 : Int32) 8 (by decide) (by decide)
    have q5 := c_l2i ((x2.toUInt64 >>> ((8 : Int32) &&& 0x3f).toInt64.toUInt64).toInt64)
    have q6 := c_i2b (((x2.toUInt64 >>> ((8 : Int32) &&& 0x3f).toInt64.toUInt64).toInt64).toInt32)
    have q7 := (show ((nar .byte ((((x2.toUInt64 >>> ((8 : Int32) &&& 0x3f).toInt64.toUInt64).toInt64).toInt32).toInt8.toInt32)).toInt - ((((x2.toUInt64 >>> ((8 : Int32) &&& 0x3f).toInt64.toUInt64).toInt64).toInt32).toInt8.toInt32).toInt) % 256 = 0 ∧ -128 ≤ (nar .byte ((((x2.toUInt64 >>> ((8 : Int32) &&& 0x3f).toInt64.toUInt64).toInt64).toInt32).toInt8.toInt32)).toInt ∧ (nar .byte ((((x2.toUInt64 >>> ((8 : Int32) &&& 0x3f).toInt64.toUInt64).toInt64).toInt32).toInt8.toInt32)).toInt < 128 from c_i2b ((((x2.toUInt64 >>> ((8 : Int32) &&& 0x3f).toInt64.toUInt64).toInt64).toInt32).toInt8.toInt32))
    have q8 := c_lushr x2 (16 : Int32) 16 (by decide) (by decide)
    have q9 := c_l2i ((x2.toUInt64 >>> ((16 : Int32) &&& 0x3f).toInt64.toUInt64).toInt64)
    have q10 := c_i2b (((x2.toUInt64 >>> ((16 : Int32) &&& 0x3f).toInt64.toUInt64).toInt64).toInt32)
    have q11 := (show ((nar .byte ((((x2.toUInt64 >>> ((16 : Int32) &&& 0x3f).toInt64.toUInt64).toInt64).toInt32).toInt8.toInt32)).toInt - ((((x2.toUInt64 >>> ((16 : Int32) &&& 0x3f).toInt64.toUInt64).toInt64).toInt32).toInt8.toInt32).toInt) % 256 = 0 ∧ -128 ≤ (nar .byte ((((x2.toUInt64 >>> ((16 : Int32) &&& 0x3f).toInt64.toUInt64).toInt64).toInt32).toInt8.toInt32)).toInt ∧ (nar .byte ((((x2.toUInt64 >>> ((16 : Int32) &&& 0x3f).toInt64.toUInt64).toInt64).toInt32).toInt8.toInt32)).toInt < 128 from c_i2b ((((x2.toUInt64 >>> ((16 : Int32) &&& 0x3f).toInt64.toUInt64).toInt64).toInt32).toInt8.toInt32))
    have q12 := c_lushr x2 (24 : Int32) 24 (by decide) (by decide)
    have q13 := c_l2i ((x2.toUInt64 >>> ((24 : Int32) &&& 0x3f).toInt64.toUInt64).toInt64)
    have q14 := c_i2b (((x2.toUInt64 >>> ((24 : Int32) &&& 0x3f).toInt64.toUInt64).toInt64).toInt32)
    have q15 := (show ((nar .byte ((((x2.toUInt64 >>> ((24 : Int32) &&& 0x3f).toInt64.toUInt64).toInt64).toInt32).toInt8.toInt32)).toInt - ((((x2.toUInt64 >>> ((24 : Int32) &&& 0x3f).toInt64.toUInt64).toInt64).toInt32).toInt8.toInt32).toInt) % 256 = 0 ∧ -128 ≤ (nar .byte ((((x2.toUInt64 >>> ((24 : Int32) &&& 0x3f).toInt64.toUInt64).toInt64).toInt32).toInt8.toInt32)).toInt ∧ (nar .byte ((((x2.toUInt64 >>> ((24 : Int32) &&& 0x3f).toInt64.toUInt64).toInt64).toInt32).toInt8.toInt32)).toInt < 128 from c_i2b ((((x2.toUInt64 >>> ((24 : Int32) &&& 0x3f).toInt64.toUInt64).toInt64).toInt32).toInt8.toInt32))
    have q16 := c_lushr x2 (32 : Int32) 32 (by decide) (by decide)
    have q17 := c_l2i ((x2.toUInt64 >>> ((32 : Int32) &&& 0x3f).toInt64.toUInt64).toInt64)
    have q18 := c_i2b (((x2.toUInt64 >>> ((32 : Int32) &&& 0x3f).toInt64.toUInt64).toInt64).toInt32)
    have q19 := (show ((nar .byte ((((x2.toUInt64 >>> ((32 : Int32) &&& 0x3f).toInt64.toUInt64).toInt64).toInt32).toInt8.toInt32)).toInt - ((((x2.toUInt64 >>> ((32 : Int32) &&& 0x3f).toInt64.toUInt64).toInt64).toInt32).toInt8.toInt32).toInt) % 256 = 0 ∧ -128 ≤ (nar .byte ((((x2.toUInt64 >>> ((32 : Int32) &&& 0x3f).toInt64.toUInt64).toInt64).toInt32).toInt8.toInt32)).toInt ∧ (nar .byte ((((x2.toUInt64 >>> ((32 : Int32) &&& 0x3f).toInt64.toUInt64).toInt64).toInt32).toInt8.toInt32)).toInt < 128 from c_i2b ((((x2.toUInt64 >>> ((32 : Int32) &&& 0x3f).toInt64.toUInt64).toInt64).toInt32).toInt8.toInt32))
    have q20 := c_lushr x2 (40 : Int32) 40 (by decide) (by decide)
    have q21 := c_l2i ((x2.toUInt64 >>> ((40 : Int32) &&& 0x3f).toInt64.toUInt64).toInt64)
    have q22 := c_i2b (((x2.toUInt64 >>> ((40 : Int32) &&& 0x3f).toInt64.toUInt64).toInt64).toInt32)
    have q23 := (show ((nar .byte ((((x2.toUInt64 >>> ((40 : Int32) &&& 0x3f).toInt64.toUInt64).toInt64).toInt32).toInt8.toInt32)).toInt - ((((x2.toUInt64 >>> ((40 : Int32) &&& 0x3f).toInt64.toUInt64).toInt64).toInt32).toInt8.toInt32).toInt) % 256 = 0 ∧ -128 ≤ (nar .byte ((((x2.toUInt64 >>> ((40 : Int32) &&& 0x3f).toInt64.toUInt64).toInt64).toInt32).toInt8.toInt32)).toInt ∧ (nar .byte ((((x2.toUInt64 >>> ((40 : Int32) &&& 0x3f).toInt64.toUInt64).toInt64).toInt32).toInt8.toInt32)).toInt < 128 from c_i2b ((((x2.toUInt64 >>> ((40 : Int32) &&& 0x3f).toInt64.toUInt64).toInt64).toInt32).toInt8.toInt32))
    have q24 := c_lushr x2 (48 : Int32) 48 (by decide) (by decide)
    have q25 := c_l2i ((x2.toUInt64 >>> ((48 : Int32) &&& 0x3f).toInt64.toUInt64).toInt64)
    have q26 := c_i2b (((x2.toUInt64 >>> ((48 : Int32) &&& 0x3f).toInt64.toUInt64).toInt64).toInt32)
    have q27 := (show ((nar .byte ((((x2.toUInt64 >>> ((48 : Int32) &&& 0x3f).toInt64.toUInt64).toInt64).toInt32).toInt8.toInt32)).toInt - ((((x2.toUInt64 >>> ((48 : Int32) &&& 0x3f).toInt64.toUInt64).toInt64).toInt32).toInt8.toInt32).toInt) % 256 = 0 ∧ -128 ≤ (nar .byte ((((x2.toUInt64 >>> ((48 : Int32) &&& 0x3f).toInt64.toUInt64).toInt64).toInt32).toInt8.toInt32)).toInt ∧ (nar .byte ((((x2.toUInt64 >>> ((48 : Int32) &&& 0x3f).toInt64.toUInt64).toInt64).toInt32).toInt8.toInt32)).toInt < 128 from c_i2b ((((x2.toUInt64 >>> ((48 : Int32) &&& 0x3f).toInt64.toUInt64).toInt64).toInt32).toInt8.toInt32))
    have q28 := c_lushr x2 (56 : Int32) 56 (by decide) (by decide)
    have q29 := c_l2i ((x2.toUInt64 >>> ((56 : Int32) &&& 0x3f).toInt64.toUInt64).toInt64)
    have q30 := c_i2b (((x2.toUInt64 >>> ((56 : Int32) &&& 0x3f).toInt64.toUInt64).toInt64).toInt32)
    have q31 := (show ((nar .byte ((((x2.toUInt64 >>> ((56 : Int32) &&& 0x3f).toInt64.toUInt64).toInt64).toInt32).toInt8.toInt32)).toInt - ((((x2.toUInt64 >>> ((56 : Int32) &&& 0x3f).toInt64.toUInt64).toInt64).toInt32).toInt8.toInt32).toInt) % 256 = 0 ∧ -128 ≤ (nar .byte ((((x2.toUInt64 >>> ((56 : Int32) &&& 0x3f).toInt64.toUInt64).toInt64).toInt32).toInt8.toInt32)).toInt ∧ (nar .byte ((((x2.toUInt64 >>> ((56 : Int32) &&& 0x3f).toInt64.toUInt64).toInt64).toInt32).toInt8.toInt32)).toInt < 128 from c_i2b ((((x2.toUInt64 >>> ((56 : Int32) &&& 0x3f).toInt64.toUInt64).toInt64).toInt32).toInt8.toInt32))
    have p0 := c98
    have p1 := c100
    have p2 := c102
    have p3 := c104
    have p4 := c106
    have p5 := c108
    have p6 := c110
    simp only [true_implies, Int32.lt_iff_toInt_lt, ← Int32.toInt_inj, Int32.reduceToInt, Int64.lt_iff_toInt_lt, ← Int64.toInt_inj, Int64.reduceToInt] at q0 q1 q2 q3 q4 q5 q6 q7 q8 q9 q10 q11 q12 q13 q14 q15 q16 q17 q18 q19 q20 q21 q22 q23 q24 q25 q26 q27 q28 q29 q30 q31 p0 p1 p2 p3 p4 p5 p6 ⊢
    omega
  refine own_stB X109 hx hZ e109 f109 (15 : Int32) ((((x2.toUInt64 >>> ((56 : Int32) &&& 0x3f).toInt64.toUInt64).toInt64).toInt32).toInt8.toInt32) ((((x2.toUInt64 >>> ((56 : Int32) &&& 0x3f).toInt64.toUInt64).toInt64).toInt32).toInt8.toInt32) 15 ⟨by decide, by decide⟩ rfl (Nat.le_of_ble_eq_true rfl) c112 [(.int ((x1.toInt32).toInt8.toInt32)), (.int ((((x1.toUInt64 >>> ((8 : Int32) &&& 0x3f).toInt64.toUInt64).toInt64).toInt32).toInt8.toInt32)), (.int ((((x1.toUInt64 >>> ((16 : Int32) &&& 0x3f).toInt64.toUInt64).toInt64).toInt32).toInt8.toInt32)), (.int ((((x1.toUInt64 >>> ((24 : Int32) &&& 0x3f).toInt64.toUInt64).toInt64).toInt32).toInt8.toInt32)), (.int ((((x1.toUInt64 >>> ((32 : Int32) &&& 0x3f).toInt64.toUInt64).toInt64).toInt32).toInt8.toInt32)), (.int ((((x1.toUInt64 >>> ((40 : Int32) &&& 0x3f).toInt64.toUInt64).toInt64).toInt32).toInt8.toInt32)), (.int ((((x1.toUInt64 >>> ((48 : Int32) &&& 0x3f).toInt64.toUInt64).toInt64).toInt32).toInt8.toInt32)), (.int ((((x1.toUInt64 >>> ((56 : Int32) &&& 0x3f).toInt64.toUInt64).toInt64).toInt32).toInt8.toInt32)), (.int ((x2.toInt32).toInt8.toInt32)), (.int ((((x2.toUInt64 >>> ((8 : Int32) &&& 0x3f).toInt64.toUInt64).toInt64).toInt32).toInt8.toInt32)), (.int ((((x2.toUInt64 >>> ((16 : Int32) &&& 0x3f).toInt64.toUInt64).toInt64).toInt32).toInt8.toInt32)), (.int ((((x2.toUInt64 >>> ((24 : Int32) &&& 0x3f).toInt64.toUInt64).toInt64).toInt32).toInt8.toInt32)), (.int ((((x2.toUInt64 >>> ((32 : Int32) &&& 0x3f).toInt64.toUInt64).toInt64).toInt32).toInt8.toInt32)), (.int ((((x2.toUInt64 >>> ((40 : Int32) &&& 0x3f).toInt64.toUInt64).toInt64).toInt32).toInt8.toInt32)), (.int ((((x2.toUInt64 >>> ((48 : Int32) &&& 0x3f).toInt64.toUInt64).toInt64).toInt32).toInt8.toInt32)), (.int ((((x2.toUInt64 >>> ((56 : Int32) &&& 0x3f).toInt64.toUInt64).toInt64).toInt32).toInt8.toInt32))] rfl N109 ge73 (hb hby at_231) ?_
  intro T111 h111 L111 X111 e111 W111 N111 f111
  show own_Go p e below _ (T111.setTop (mkF m 232 #[.val (.int x0), .val (.long x1), .second, .val (.long x2), .second, .val (.int x3), .val (.int (1 : Int32)), .val (.int (x3 &&& (65535 : Int32))), .val (.ref b68), .val (.ref b71), .unset, .unset, .unset, .unset, .unset] []))
  refine own_go (fun _ hr => XS.iload X111.here hx rfl (hb hby at_232) rfl (XS.ifNo X111.here hx rfl (hb hby at_234) rfl ((if0 _ _).trans (feq (by decide)).1) (XS.aload X111.here hx rfl (hb hby at_237) rfl rfl (XS.goto X111.here hx rfl (pc0 := 239) (pc' := 244) rfl (hb hby at_239) (by decide) (by decide) (XS.astore X111.here hx rfl (hb hby at_244) rfl rfl (l' := #[.val (.int x0), .val (.long x1), .second, .val (.long x2), .second, .val (.int x3), .val (.int (1 : Int32)), .val (.int (x3 &&& (65535 : Int32))), .val (.ref b68), .val (.ref b71), .val (.ref b71), .unset, .unset, .unset, .unset]) rfl hr))))) ?_
  show own_Go p e below _ (T111.setTop (mkF m 246 #[.val (.int x0), .val (.long x1), .second, .val (.long x2), .second, .val (.int x3), .val (.int (1 : Int32)), .val (.int (x3 &&& (65535 : Int32))), .val (.ref b68), .val (.ref b71), .val (.ref b71), .unset, .unset, .unset, .unset] []))
  obtain ⟨T113, h113, X113, e113, E113, A113, D113, -, st113⟩ := newO X111 hx hZ hown (hw _ (own_m 2 rfl)) (hw _ (own_m 3 rfl)) (hw _ (own_m 4 rfl)) e111 (g := (mkF m 246 #[.val (.int x0), .val (.long x1), .second, .val (.long x2), .second, .val (.int x3), .val (.int (1 : Int32)), .val (.int (x3 &&& (65535 : Int32))), .val (.ref b68), .val (.ref b71), .val (.ref b71), .unset, .unset, .unset, .unset] [])) rfl (hb hby at_246) (by decide) (by decide)
  obtain ⟨b113, g113⟩ : ∃ z, z = h111.size := ⟨_, rfl⟩
  rw [← g113] at A113 D113 st113
  have Z114 := (Nat.le_trans (Nat.le_trans (Nat.le_trans (Nat.le_trans (Nat.le_trans (Nat.le_trans (Nat.le_trans (Nat.le_trans (Nat.le_trans (Nat.le_trans (Nat.le_trans (Nat.le_trans (Nat.le_trans (Nat.le_trans (Nat.le_trans (Nat.le_trans (Nat.le_trans (Nat.le_trans (Nat.le_trans (Nat.le_trans (Nat.le_trans Z72 E71.1) (Nat.le_of_eq W76.size.symm)) (Nat.le_of_eq W78.size.symm)) (Nat.le_of_eq W80.size.symm)) (Nat.le_of_eq W82.size.symm)) (Nat.le_of_eq W85.size.symm)) (Nat.le_of_eq W86.size.symm)) (Nat.le_of_eq W87.size.symm)) (Nat.le_of_eq W88.size.symm)) (Nat.le_of_eq W89.size.symm)) (Nat.le_of_eq W91.size.symm)) (Nat.le_of_eq W93.size.symm)) (Nat.le_of_eq W95.size.symm)) (Nat.le_of_eq W97.size.symm)) (Nat.le_of_eq W99.size.symm)) (Nat.le_of_eq W101.size.symm)) (Nat.le_of_eq W103.size.symm)) (Nat.le_of_eq W105.size.symm)) (Nat.le_of_eq W107.size.symm)) (Nat.le_of_eq W109.size.symm)) (Nat.le_of_eq W111.size.symm))
  have ge115 : n0 ≤ b113 := Nat.le_trans Z114 (Nat.le_of_eq g113.symm)
  refine own_go st113 ?_
  have f116 : Fld Z h113 b113 "com/example/appenddb/appenddb/HostAddress" "address" "[B" .null := D113 (Or.inr (hw _ (own_m 22 rfl))) (ty := (.array .byte)) (by decide)
  have f117 : Fld Z h113 b113 "com/example/appenddb/appenddb/HostAddress" "port" "I" (.int (0 : Int32)) := D113 (Or.inr (hw _ (own_m 24 rfl))) (ty := .int) (by decide)
  show own_Go p e below _ (T113.setTop (mkF m 249 #[.val (.int x0), .val (.long x1), .second, .val (.long x2), .second, .val (.int x3), .val (.int (1 : Int32)), .val (.int (x3 &&& (65535 : Int32))), .val (.ref b68), .val (.ref b71), .val (.ref b71), .unset, .unset, .unset, .unset] [(.ref b113)]))
  refine own_go (fun _ hr => XS.dup X113.here hx rfl (hb hby at_249) rfl rfl (XS.aload X113.here hx rfl (hb hby at_250) rfl rfl (XS.iload X113.here hx rfl (hb hby at_252) rfl hr))) ?_
  show own_Go p e below _ (T113.setTop (mkF m 254 #[.val (.int x0), .val (.long x1), .second, .val (.long x2), .second, .val (.int x3), .val (.int (1 : Int32)), .val (.int (x3 &&& (65535 : Int32))), .val (.ref b68), .val (.ref b71), .val (.ref b71), .unset, .unset, .unset, .unset] [(.int (x3 &&& (65535 : Int32))), (.ref b71), (.ref b113), (.ref b113)]))
  have c118 : ¬ ((x3 &&& (65535 : Int32)) < (0 : Int32)) := by
    have q0 := rng32 x3
    have q1 := c_mask x3 (65535 : Int32) 16 (by decide) (by decide)
    simp only [true_implies, Int32.lt_iff_toInt_lt, ← Int32.toInt_inj, Int32.reduceToInt, Int64.lt_iff_toInt_lt, ← Int64.toInt_inj, Int64.reduceToInt] at q0 q1 ⊢
    omega
  have c119 : ¬ ((65535 : Int32) < (x3 &&& (65535 : Int32))) := by
    have q0 := rng32 x3
    have q1 := c_mask x3 (65535 : Int32) 16 (by decide) (by decide)
    have p0 := c118
    simp only [true_implies, Int32.lt_iff_toInt_lt, ← Int32.toInt_inj, Int32.reduceToInt, Int64.lt_iff_toInt_lt, ← Int64.toInt_inj, Int64.reduceToInt] at q0 q1 p0 ⊢
    omega
  have f121 := (f111.ext E113)
  have f122 := (((((((((((((((((((((EA71.wr W76).wr W78).wr W80).wr W82).wr W85).wr W86).wr W87).wr W88).wr W89).wr W91).wr W93).wr W95).wr W97).wr W99).wr W101).wr W103).wr W105).wr W107).wr W109).wr W111).ext E113)
  have Z123 := (Nat.le_trans Z114 E113.1)
  refine own_cp X113 hx hZ hown rfl (hw _ (own_m 5 rfl)) (hw _ (own_m 6 rfl)) (hw _ (own_m 4 rfl)) (hw _ (own_m 7 rfl)) (by decide) (rm := { frames := 1, cells := 1, slots := 16, locals := 15 }) (rm_init_4 l Z a0 hw [] b113 b71 (x3 &&& (65535 : Int32)) ((x1.toInt32).toInt8.toInt32) ((((x1.toUInt64 >>> ((8 : Int32) &&& 0x3f).toInt64.toUInt64).toInt64).toInt32).toInt8.toInt32) ((((x1.toUInt64 >>> ((16 : Int32) &&& 0x3f).toInt64.toUInt64).toInt64).toInt32).toInt8.toInt32) ((((x1.toUInt64 >>> ((24 : Int32) &&& 0x3f).toInt64.toUInt64).toInt64).toInt32).toInt8.toInt32) ((((x1.toUInt64 >>> ((32 : Int32) &&& 0x3f).toInt64.toUInt64).toInt64).toInt32).toInt8.toInt32) ((((x1.toUInt64 >>> ((40 : Int32) &&& 0x3f).toInt64.toUInt64).toInt64).toInt32).toInt8.toInt32) ((((x1.toUInt64 >>> ((48 : Int32) &&& 0x3f).toInt64.toUInt64).toInt64).toInt32).toInt8.toInt32) ((((x1.toUInt64 >>> ((56 : Int32) &&& 0x3f).toInt64.toUInt64).toInt64).toInt32).toInt8.toInt32) ((x2.toInt32).toInt8.toInt32) ((((x2.toUInt64 >>> ((8 : Int32) &&& 0x3f).toInt64.toUInt64).toInt64).toInt32).toInt8.toInt32) ((((x2.toUInt64 >>> ((16 : Int32) &&& 0x3f).toInt64.toUInt64).toInt64).toInt32).toInt8.toInt32) ((((x2.toUInt64 >>> ((24 : Int32) &&& 0x3f).toInt64.toUInt64).toInt64).toInt32).toInt8.toInt32) ((((x2.toUInt64 >>> ((32 : Int32) &&& 0x3f).toInt64.toUInt64).toInt64).toInt32).toInt8.toInt32) ((((x2.toUInt64 >>> ((40 : Int32) &&& 0x3f).toInt64.toUInt64).toInt64).toInt32).toInt8.toInt32) ((((x2.toUInt64 >>> ((48 : Int32) &&& 0x3f).toInt64.toUInt64).toInt64).toInt32).toInt8.toInt32) ((((x2.toUInt64 >>> ((56 : Int32) &&& 0x3f).toInt64.toUInt64).toInt64).toInt32).toInt8.toInt32) k71 h113 n0 Z123 f121 f122 A113 f116 f117 ge115 c118 c119) (by decide) (W := 1) (by decide) (by decide) (by decide) e113 (by rw [hml]; rfl) (argsL := [(.ref b71), (.int (x3 &&& (65535 : Int32)))]) (lenOf own_pd0 rfl) (rest := [(.ref b113)]) rfl rfl (Nat.le_of_eq rfl) (hb hby at_254) ?_
  intro _ T120 L120 X120 hQ120
  obtain ⟨b120_0, kb120_0, rfl, N120q, K120, ge120_0, sz120_0, f120_0, f120_1, f120_2, f120_3⟩ := hQ120
  have N120 := Fr.app N111 N120q
  show own_Go p e below _ (T120.setTop (mkF m 257 #[.val (.int x0), .val (.long x1), .second, .val (.long x2), .second, .val (.int x3), .val (.int (1 : Int32)), .val (.int (x3 &&& (65535 : Int32))), .val (.ref b68), .val (.ref b71), .val (.ref b71), .unset, .unset, .unset, .unset] [(.ref b113)]))
  refine own_go (fun _ hr => XS.astore X120.here hx rfl (hb hby at_257) rfl rfl (l' := #[.val (.int x0), .val (.long x1), .second, .val (.long x2), .second, .val (.int x3), .val (.int (1 : Int32)), .val (.int (x3 &&& (65535 : Int32))), .val (.ref b68), .val (.ref b71), .val (.ref b71), .val (.ref b113), .unset, .unset, .unset]) rfl (XS.aload X120.here hx rfl (hb hby at_259) rfl rfl hr)) ?_
  show own_Go p e below _ (T120.setTop (mkF m 261 #[.val (.int x0), .val (.long x1), .second, .val (.long x2), .second, .val (.int x3), .val (.int (1 : Int32)), .val (.int (x3 &&& (65535 : Int32))), .val (.ref b68), .val (.ref b71), .val (.ref b71), .val (.ref b113), .unset, .unset, .unset] [(.ref b113)]))
  have Z125 := (Nat.le_trans Z123 K120.1)
  have f126 := (A113.keep K120)
  refine own_cv X120 hx hZ hown (notFace_of_selects (args := #[]) (mvT hZ (hw _ (own_m 28 rfl)))) (hw _ (own_m 25 rfl)) (hw _ (own_m 26 rfl)) (hw _ (own_m 28 rfl)) (hw _ (own_m 27 rfl)) (hw _ (own_m 4 rfl)) (hw _ (own_m 29 rfl)) (by decide) f126 (rm := { frames := 0, cells := 0, slots := 0, locals := 0 }) (rm_isIpv6_5 l Z a0 hw [] b113 b120_0 ((x1.toInt32).toInt8.toInt32) ((((x1.toUInt64 >>> ((8 : Int32) &&& 0x3f).toInt64.toUInt64).toInt64).toInt32).toInt8.toInt32) ((((x1.toUInt64 >>> ((16 : Int32) &&& 0x3f).toInt64.toUInt64).toInt64).toInt32).toInt8.toInt32) ((((x1.toUInt64 >>> ((24 : Int32) &&& 0x3f).toInt64.toUInt64).toInt64).toInt32).toInt8.toInt32) ((((x1.toUInt64 >>> ((32 : Int32) &&& 0x3f).toInt64.toUInt64).toInt64).toInt32).toInt8.toInt32) ((((x1.toUInt64 >>> ((40 : Int32) &&& 0x3f).toInt64.toUInt64).toInt64).toInt32).toInt8.toInt32) ((((x1.toUInt64 >>> ((48 : Int32) &&& 0x3f).toInt64.toUInt64).toInt64).toInt32).toInt8.toInt32) ((((x1.toUInt64 >>> ((56 : Int32) &&& 0x3f).toInt64.toUInt64).toInt64).toInt32).toInt8.toInt32) ((x2.toInt32).toInt8.toInt32) ((((x2.toUInt64 >>> ((8 : Int32) &&& 0x3f).toInt64.toUInt64).toInt64).toInt32).toInt8.toInt32) ((((x2.toUInt64 >>> ((16 : Int32) &&& 0x3f).toInt64.toUInt64).toInt64).toInt32).toInt8.toInt32) ((((x2.toUInt64 >>> ((24 : Int32) &&& 0x3f).toInt64.toUInt64).toInt64).toInt32).toInt8.toInt32) ((((x2.toUInt64 >>> ((32 : Int32) &&& 0x3f).toInt64.toUInt64).toInt64).toInt32).toInt8.toInt32) ((((x2.toUInt64 >>> ((40 : Int32) &&& 0x3f).toInt64.toUInt64).toInt64).toInt32).toInt8.toInt32) ((((x2.toUInt64 >>> ((48 : Int32) &&& 0x3f).toInt64.toUInt64).toInt64).toInt32).toInt8.toInt32) ((((x2.toUInt64 >>> ((56 : Int32) &&& 0x3f).toInt64.toUInt64).toInt64).toInt32).toInt8.toInt32) kb120_0 T120.heap n0 Z125 f120_0 f120_2) (by decide) (W := 0) (by decide) (by decide) (by decide) rfl (by rw [hml]; rfl) (argsL := []) (lenOf own_pd1 rfl) (rest := []) rfl rfl (Nat.le_of_eq rfl) (hb hby at_261) ?_
  intro _ T124 L124 X124 hQ124
  obtain ⟨rfl, N124q, e124⟩ := hQ124
  have N124 := Fr.app N120 N124q
  show own_Go p e below _ (T124.setTop (mkF m 264 #[.val (.int x0), .val (.long x1), .second, .val (.long x2), .second, .val (.int x3), .val (.int (1 : Int32)), .val (.int (x3 &&& (65535 : Int32))), .val (.ref b68), .val (.ref b71), .val (.ref b71), .val (.ref b113), .unset, .unset, .unset] [(.int (1 : Int32))]))
  refine own_go (fun _ hr => XS.istore X124.here hx rfl (hb hby at_264) rfl (l' := #[.val (.int x0), .val (.long x1), .second, .val (.long x2), .second, .val (.int x3), .val (.int (1 : Int32)), .val (.int (x3 &&& (65535 : Int32))), .val (.ref b68), .val (.ref b71), .val (.ref b71), .val (.ref b113), .val (.int (1 : Int32)), .unset, .unset]) rfl (XS.iload X124.here hx rfl (hb hby at_266) rfl (XS.iload X124.here hx rfl (hb hby at_268) rfl (XS.icmpYes X124.here hx rfl (pc0 := 270) (pc' := 275) rfl (hb hby at_270) rfl (teq (by decide)).1 (by decide) (by decide) (XS.iload X124.here hx rfl (hb hby at_275) rfl (XS.ifNo X124.here hx rfl (hb hby at_277) rfl ((if0 _ _).trans (feq (by decide)).1) (XS.bipush X124.here hx rfl (hb hby at_280) (XS.goto X124.here hx rfl (pc0 := 282) (pc' := 287) rfl (hb hby at_282) (by decide) (by decide) (XS.istore X124.here hx rfl (hb hby at_287) rfl (l' := #[.val (.int x0), .val (.long x1), .second, .val (.long x2), .second, .val (.int x3), .val (.int (1 : Int32)), .val (.int (x3 &&& (65535 : Int32))), .val (.ref b68), .val (.ref b71), .val (.ref b71), .val (.ref b113), .val (.int (1 : Int32)), .val (.int (20 : Int32)), .unset]) rfl (XS.aload X124.here hx rfl (hb hby at_289) rfl rfl hr)))))))))) ?_
  show own_Go p e below _ (T124.setTop (mkF m 291 #[.val (.int x0), .val (.long x1), .second, .val (.long x2), .second, .val (.int x3), .val (.int (1 : Int32)), .val (.int (x3 &&& (65535 : Int32))), .val (.ref b68), .val (.ref b71), .val (.ref b71), .val (.ref b113), .val (.int (1 : Int32)), .val (.int (20 : Int32)), .unset] [(.ref b113)]))
  refine own_cv X124 hx hZ hown (notFace_of_selects (args := #[]) (mvT hZ (hw _ (own_m 33 rfl)))) (hw _ (own_m 30 rfl)) (hw _ (own_m 31 rfl)) (hw _ (own_m 33 rfl)) (hw _ (own_m 32 rfl)) (hw _ (own_m 4 rfl)) (hw _ (own_m 34 rfl)) (by decide) f126 (rm := { frames := 0, cells := 0, slots := 0, locals := 0 }) (rm_encodedLength_6 l Z a0 hw [] b113 b120_0 ((x1.toInt32).toInt8.toInt32) ((((x1.toUInt64 >>> ((8 : Int32) &&& 0x3f).toInt64.toUInt64).toInt64).toInt32).toInt8.toInt32) ((((x1.toUInt64 >>> ((16 : Int32) &&& 0x3f).toInt64.toUInt64).toInt64).toInt32).toInt8.toInt32) ((((x1.toUInt64 >>> ((24 : Int32) &&& 0x3f).toInt64.toUInt64).toInt64).toInt32).toInt8.toInt32) ((((x1.toUInt64 >>> ((32 : Int32) &&& 0x3f).toInt64.toUInt64).toInt64).toInt32).toInt8.toInt32) ((((x1.toUInt64 >>> ((40 : Int32) &&& 0x3f).toInt64.toUInt64).toInt64).toInt32).toInt8.toInt32) ((((x1.toUInt64 >>> ((48 : Int32) &&& 0x3f).toInt64.toUInt64).toInt64).toInt32).toInt8.toInt32) ((((x1.toUInt64 >>> ((56 : Int32) &&& 0x3f).toInt64.toUInt64).toInt64).toInt32).toInt8.toInt32) ((x2.toInt32).toInt8.toInt32) ((((x2.toUInt64 >>> ((8 : Int32) &&& 0x3f).toInt64.toUInt64).toInt64).toInt32).toInt8.toInt32) ((((x2.toUInt64 >>> ((16 : Int32) &&& 0x3f).toInt64.toUInt64).toInt64).toInt32).toInt8.toInt32) ((((x2.toUInt64 >>> ((24 : Int32) &&& 0x3f).toInt64.toUInt64).toInt64).toInt32).toInt8.toInt32) ((((x2.toUInt64 >>> ((32 : Int32) &&& 0x3f).toInt64.toUInt64).toInt64).toInt32).toInt8.toInt32) ((((x2.toUInt64 >>> ((40 : Int32) &&& 0x3f).toInt64.toUInt64).toInt64).toInt32).toInt8.toInt32) ((((x2.toUInt64 >>> ((48 : Int32) &&& 0x3f).toInt64.toUInt64).toInt64).toInt32).toInt8.toInt32) ((((x2.toUInt64 >>> ((56 : Int32) &&& 0x3f).toInt64.toUInt64).toInt64).toInt32).toInt8.toInt32) kb120_0 T120.heap n0 Z125 f120_0 f120_2) (by decide) (W := 0) (by decide) (by decide) (by decide) e124 (by rw [hml]; rfl) (argsL := []) (lenOf own_pd2 rfl) (rest := []) rfl rfl (Nat.le_of_eq rfl) (hb hby at_291) ?_
  intro _ T127 L127 X127 hQ127
  obtain ⟨rfl, N127q, e127⟩ := hQ127
  have N127 := Fr.app N124 N127q
  show own_Go p e below _ (T127.setTop (mkF m 294 #[.val (.int x0), .val (.long x1), .second, .val (.long x2), .second, .val (.int x3), .val (.int (1 : Int32)), .val (.int (x3 &&& (65535 : Int32))), .val (.ref b68), .val (.ref b71), .val (.ref b71), .val (.ref b113), .val (.int (1 : Int32)), .val (.int (20 : Int32)), .unset] [(.int (20 : Int32))]))
  refine own_go (fun _ hr => XS.iload X127.here hx rfl (hb hby at_294) rfl (XS.icmpYes X127.here hx rfl (pc0 := 296) (pc' := 301) rfl (hb hby at_296) rfl (teq (by decide)).1 (by decide) (by decide) (XS.iload X127.here hx rfl (hb hby at_301) rfl (XS.ifNo X127.here hx rfl (hb hby at_303) rfl ((if0 _ _).trans (feq (by decide)).1) (XS.bipush X127.here hx rfl (hb hby at_306) (XS.goto X127.here hx rfl (pc0 := 308) (pc' := 312) rfl (hb hby at_308) (by decide) (by decide) (XS.istore X127.here hx rfl (hb hby at_312) rfl (l' := #[.val (.int x0), .val (.long x1), .second, .val (.long x2), .second, .val (.int x3), .val (.int (1 : Int32)), .val (.int (x3 &&& (65535 : Int32))), .val (.ref b68), .val (.ref b71), .val (.ref b71), .val (.ref b113), .val (.int (1 : Int32)), .val (.int (20 : Int32)), .val (.int (16 : Int32))]) rfl (XS.aload X127.here hx rfl (hb hby at_314) rfl rfl hr)))))))) ?_
  show own_Go p e below _ (T127.setTop (mkF m 316 #[.val (.int x0), .val (.long x1), .second, .val (.long x2), .second, .val (.int x3), .val (.int (1 : Int32)), .val (.int (x3 &&& (65535 : Int32))), .val (.ref b68), .val (.ref b71), .val (.ref b71), .val (.ref b113), .val (.int (1 : Int32)), .val (.int (20 : Int32)), .val (.int (16 : Int32))] [(.ref b113)]))
  refine own_cv X127 hx hZ hown (notFace_of_selects (args := #[]) (mvT hZ (hw _ (own_m 38 rfl)))) (hw _ (own_m 35 rfl)) (hw _ (own_m 36 rfl)) (hw _ (own_m 38 rfl)) (hw _ (own_m 37 rfl)) (hw _ (own_m 4 rfl)) (hw _ (own_m 39 rfl)) (by decide) f126 (rm := { frames := 1, cells := 1, slots := 16, locals := 14 }) (rm_getAddress_7 l Z a0 hw [] b113 b120_0 ((x1.toInt32).toInt8.toInt32) ((((x1.toUInt64 >>> ((8 : Int32) &&& 0x3f).toInt64.toUInt64).toInt64).toInt32).toInt8.toInt32) ((((x1.toUInt64 >>> ((16 : Int32) &&& 0x3f).toInt64.toUInt64).toInt64).toInt32).toInt8.toInt32) ((((x1.toUInt64 >>> ((24 : Int32) &&& 0x3f).toInt64.toUInt64).toInt64).toInt32).toInt8.toInt32) ((((x1.toUInt64 >>> ((32 : Int32) &&& 0x3f).toInt64.toUInt64).toInt64).toInt32).toInt8.toInt32) ((((x1.toUInt64 >>> ((40 : Int32) &&& 0x3f).toInt64.toUInt64).toInt64).toInt32).toInt8.toInt32) ((((x1.toUInt64 >>> ((48 : Int32) &&& 0x3f).toInt64.toUInt64).toInt64).toInt32).toInt8.toInt32) ((((x1.toUInt64 >>> ((56 : Int32) &&& 0x3f).toInt64.toUInt64).toInt64).toInt32).toInt8.toInt32) ((x2.toInt32).toInt8.toInt32) ((((x2.toUInt64 >>> ((8 : Int32) &&& 0x3f).toInt64.toUInt64).toInt64).toInt32).toInt8.toInt32) ((((x2.toUInt64 >>> ((16 : Int32) &&& 0x3f).toInt64.toUInt64).toInt64).toInt32).toInt8.toInt32) ((((x2.toUInt64 >>> ((24 : Int32) &&& 0x3f).toInt64.toUInt64).toInt64).toInt32).toInt8.toInt32) ((((x2.toUInt64 >>> ((32 : Int32) &&& 0x3f).toInt64.toUInt64).toInt64).toInt32).toInt8.toInt32) ((((x2.toUInt64 >>> ((40 : Int32) &&& 0x3f).toInt64.toUInt64).toInt64).toInt32).toInt8.toInt32) ((((x2.toUInt64 >>> ((48 : Int32) &&& 0x3f).toInt64.toUInt64).toInt64).toInt32).toInt8.toInt32) ((((x2.toUInt64 >>> ((56 : Int32) &&& 0x3f).toInt64.toUInt64).toInt64).toInt32).toInt8.toInt32) kb120_0 T120.heap n0 Z125 f120_0 f120_2 f120_3) (by decide) (W := 0) (by decide) (by decide) (by decide) e127 (by rw [hml]; rfl) (argsL := []) (lenOf own_pd3 rfl) (rest := []) rfl rfl (Nat.le_of_eq rfl) (hb hby at_316) ?_
  intro _ T128 L128 X128 hQ128
  obtain ⟨b128_0, kb128_0, rfl, N128q, K128, ge128_0, sz128_0, f128_0, f128_1⟩ := hQ128
  have N128 := Fr.app N127 N128q
  show own_Go p e below _ (T128.setTop (mkF m 319 #[.val (.int x0), .val (.long x1), .second, .val (.long x2), .second, .val (.int x3), .val (.int (1 : Int32)), .val (.int (x3 &&& (65535 : Int32))), .val (.ref b68), .val (.ref b71), .val (.ref b71), .val (.ref b113), .val (.int (1 : Int32)), .val (.int (20 : Int32)), .val (.int (16 : Int32))] [(.ref b128_0)]))
  refine own_go (fun _ hr => own_alen X128 hx hZ rfl f128_0 rfl rfl (hb hby at_319) (XS.iload X128.here hx rfl (hb hby at_320) rfl (XS.icmpYes X128.here hx rfl (pc0 := 322) (pc' := 327) rfl (hb hby at_322) rfl (teq (by decide)).1 (by decide) (by decide) (XS.aload X128.here hx rfl (hb hby at_327) rfl rfl hr)))) ?_
  show own_Go p e below _ (T128.setTop (mkF m 329 #[.val (.int x0), .val (.long x1), .second, .val (.long x2), .second, .val (.int x3), .val (.int (1 : Int32)), .val (.int (x3 &&& (65535 : Int32))), .val (.ref b68), .val (.ref b71), .val (.ref b71), .val (.ref b113), .val (.int (1 : Int32)), .val (.int (20 : Int32)), .val (.int (16 : Int32))] [(.ref b113)]))
  have f130 := (f120_0.keep K128 nin0)
  have f131 := (f120_2.keep K128 nin0)
  have Z132 := (Nat.le_trans Z125 K128.1)
  have f133 := (f126.keep K128)
  refine own_cv X128 hx hZ hown (notFace_of_selects (args := #[]) (mvT hZ (hw _ (own_m 28 rfl)))) (hw _ (own_m 25 rfl)) (hw _ (own_m 26 rfl)) (hw _ (own_m 28 rfl)) (hw _ (own_m 27 rfl)) (hw _ (own_m 4 rfl)) (hw _ (own_m 29 rfl)) (by decide) f133 (rm := { frames := 0, cells := 0, slots := 0, locals := 0 }) (rm_isIpv6_5 l Z a0 hw [] b113 b120_0 ((x1.toInt32).toInt8.toInt32) ((((x1.toUInt64 >>> ((8 : Int32) &&& 0x3f).toInt64.toUInt64).toInt64).toInt32).toInt8.toInt32) ((((x1.toUInt64 >>> ((16 : Int32) &&& 0x3f).toInt64.toUInt64).toInt64).toInt32).toInt8.toInt32) ((((x1.toUInt64 >>> ((24 : Int32) &&& 0x3f).toInt64.toUInt64).toInt64).toInt32).toInt8.toInt32) ((((x1.toUInt64 >>> ((32 : Int32) &&& 0x3f).toInt64.toUInt64).toInt64).toInt32).toInt8.toInt32) ((((x1.toUInt64 >>> ((40 : Int32) &&& 0x3f).toInt64.toUInt64).toInt64).toInt32).toInt8.toInt32) ((((x1.toUInt64 >>> ((48 : Int32) &&& 0x3f).toInt64.toUInt64).toInt64).toInt32).toInt8.toInt32) ((((x1.toUInt64 >>> ((56 : Int32) &&& 0x3f).toInt64.toUInt64).toInt64).toInt32).toInt8.toInt32) ((x2.toInt32).toInt8.toInt32) ((((x2.toUInt64 >>> ((8 : Int32) &&& 0x3f).toInt64.toUInt64).toInt64).toInt32).toInt8.toInt32) ((((x2.toUInt64 >>> ((16 : Int32) &&& 0x3f).toInt64.toUInt64).toInt64).toInt32).toInt8.toInt32) ((((x2.toUInt64 >>> ((24 : Int32) &&& 0x3f).toInt64.toUInt64).toInt64).toInt32).toInt8.toInt32) ((((x2.toUInt64 >>> ((32 : Int32) &&& 0x3f).toInt64.toUInt64).toInt64).toInt32).toInt8.toInt32) ((((x2.toUInt64 >>> ((40 : Int32) &&& 0x3f).toInt64.toUInt64).toInt64).toInt32).toInt8.toInt32) ((((x2.toUInt64 >>> ((48 : Int32) &&& 0x3f).toInt64.toUInt64).toInt64).toInt32).toInt8.toInt32) ((((x2.toUInt64 >>> ((56 : Int32) &&& 0x3f).toInt64.toUInt64).toInt64).toInt32).toInt8.toInt32) kb120_0 T128.heap n0 Z132 f130 f131) (by decide) (W := 0) (by decide) (by decide) (by decide) rfl (by rw [hml]; rfl) (argsL := []) (lenOf own_pd1 rfl) (rest := []) rfl rfl (Nat.le_of_eq rfl) (hb hby at_329) ?_
  intro _ T129 L129 X129 hQ129
  obtain ⟨rfl, N129q, e129⟩ := hQ129
  have N129 := Fr.app N128 N129q
  show own_Go p e below _ (T129.setTop (mkF m 332 #[.val (.int x0), .val (.long x1), .second, .val (.long x2), .second, .val (.int x3), .val (.int (1 : Int32)), .val (.int (x3 &&& (65535 : Int32))), .val (.ref b68), .val (.ref b71), .val (.ref b71), .val (.ref b113), .val (.int (1 : Int32)), .val (.int (20 : Int32)), .val (.int (16 : Int32))] [(.int (1 : Int32))]))
  refine own_go (fun _ hr => XS.iload X129.here hx rfl (hb hby at_332) rfl (XS.icmpNo X129.here hx rfl (hb hby at_334) rfl (teq (by decide)).2 (XS.iconst X129.here hx rfl (hb hby at_337) (XS.goto X129.here hx rfl (pc0 := 338) (pc' := 342) rfl (hb hby at_338) (by decide) (by decide) hr)))) ?_
  show own_Go p e below _ (T129.setTop (mkF m 342 #[.val (.int x0), .val (.long x1), .second, .val (.long x2), .second, .val (.int x3), .val (.int (1 : Int32)), .val (.int (x3 &&& (65535 : Int32))), .val (.ref b68), .val (.ref b71), .val (.ref b71), .val (.ref b113), .val (.int (1 : Int32)), .val (.int (20 : Int32)), .val (.int (16 : Int32))] [(.int (1 : Int32))]))
  exact own_retN X129 hx hlk Bd.returns (t := .boolean) (by simp) (hb hby at_342) (by decide) (by decide) ⟨rfl, N129⟩
set_option maxRecDepth 65536 in
set_option maxHeartbeats 40000000 in
theorem comes_1 {Post : Tables → Env → Array Value → State → Outcome → State → Prop} (hpost : ∀ tb e args s v u, (limb_1_1.after args s (.returned v) u = true ∧ limb_1_2.after args s (.returned v) u = true ∧ True) → FrameEnd s (.returned v) u (Jvm.fieldLocs frame_1_writes args s ++ Jvm.arrayLocs frame_1_arrays args s ++ Jvm.staticLocs frame_1_statics s) 24 192 → Post tb e args s (.returned v) u) :
    ArmFor flags0 classFile x code maxLocals ret World_1 tables_1 room_1 Calls_1 rest_1 Pre_1 Post := by
  intro l hfl _ _ p e ha hc hk s m args below hf hA hF happ hP
  obtain ⟨hcalls, hrest, hpre⟩ := hP
  obtain ⟨-, -, -, hnamed, -, -, -, hat⟩ := (Spec.applies_iff hf).mp happ
  obtain ⟨hg, hn⟩ := and_e (Cond.before_iff.mp (show (Jvm.Cond.and given_1 narrow_1).before args s = true from hpre))
  obtain ⟨g1, g2⟩ := and_e hg
  obtain ⟨g3, g4⟩ := and_e g2
  obtain ⟨g5, g6⟩ := and_e g4
  obtain ⟨g7, g8⟩ := and_e g6
  obtain ⟨w0, w1, w2, w3, rfl⟩ : ∃ w0 w1 w2 w3 : Value, args = #[w0, w1, w2, w3] := by
    have hs : args.size = 4 := by simpa [Cond.value, given_1] using g1
    obtain ⟨L⟩ := args
    match L, hs with
    | [w0, w1, w2, w3], _ => exact ⟨w0, w1, w2, w3, rfl⟩
  have hw := fun d (hd : d ∈ tables_1) => atoms_spec (ws := Jvm.Cond.code x code maxLocals ret :: tables_1) hat d (List.mem_cons_of_mem _ hd)
  have hfit : Fit s := fun {y c} hc i hi => by
    obtain ⟨ha, rfl⟩ := Array.getElem?_eq_some_iff.mp hc
    have q := List.all_eq_true.mp ((Array.all_eq_true_iff_forall_mem.mp hF) _ (Array.getElem_mem ha)) i (List.mem_range.mpr hi)
    simpa [Array.getElem?_eq_getElem hi] using q
  obtain ⟨i0, ei0⟩ := is_v g3
  obtain rfl : w0 = (.int i0) := Option.some.inj ei0
  obtain ⟨i1, ei1⟩ := isL_v g5
  obtain rfl : w1 = (.long i1) := Option.some.inj ei1
  obtain ⟨i2, ei2⟩ := isL_v g7
  obtain rfl : w2 = (.long i2) := Option.some.inj ei2
  obtain ⟨i3, ei3⟩ := is_v g8
  obtain rfl : w3 = (.int i3) := Option.some.inj ei3
  obtain ⟨n, o, h1, h2, h3, _, L, rfl, ⟨rfl, N⟩, hq⟩ := rm_law l s _ hw tables_1 i0 i1 i2 i3 s.heap s.heap.size (Nat.le_refl _)  p e ha hc hk s m _ below hf ((Spec.applies_iff_loose hf).mp happ).1 ⟨rfl, State.Warmed39.refl s, rfl⟩ trivial
  refine ⟨n, _, h1, h2, h3, hpost _ _ _ _ _ _ ⟨Cond.after_iff.mpr rfl, Cond.after_iff.mpr (eq_i res_at (Term.int_eval (1)) rfl), trivial⟩ ⟨hq.1, hq.2.1, (hq.2.2.sift fun y hy => Or.inr (N y hy)).mono (by decide) (by decide)⟩⟩
theorem main_1_1 : Claimed_1_1 := comes_1 fun _ _ _ _ _ _ h hF => ⟨h.1, hF⟩
theorem main_1_2 : Claimed_1_2 := comes_1 fun _ _ _ _ _ _ h hF => ⟨h.2.1, hF⟩
end Jvm.Pilot.@@N@@
namespace Jvm.Pilot.@@N@@
open Jvm Jvm.ClassFile Sem Op Lib Jvm.Free Jvm.Stand Jvm.Pilot.@@N@@.Jvm.D
/-! MADE BY PROGRAM (witnessworld.py) out of the Statement's table words and the real class files: 9 classes; the members and pool entries that the words name. The judged class is class 1, her method 1. -/
namespace start1
open Jvm.ClassFile
def u (s : String) : CpInfo := .utf8 (stringToUtf16 s)
/-- a pool by its gaps: so many unusable entries, then the entry; so many at the end -/
def gap : Nat → List CpInfo → List CpInfo
  | 0, r => r
  | n + 1, r => .unusable :: gap n r
def poolList (es : List (Nat × CpInfo)) (last : Nat) : List CpInfo := es.foldr (fun e r => gap e.1 (e.2 :: r)) (gap last [])
def pool (es : List (Nat × CpInfo)) (last : Nat) : Array CpInfo := ⟨poolList es last⟩
def fileOf (pool : Array CpInfo) (this : Nat) (attrs : Array Attribute := #[]) (ms : Array MethodInfo := #[]) (fl : Nat := 33) (sup : Nat := 0) (ifs : Array Nat := #[]) (fds : Array FieldInfo := #[]) : ClassFile where
  minorVersion := 0
  majorVersion := 65
  constantPool := pool
  accessFlags := fl
  thisClass := this
  superClass := sup
  interfaces := ifs
  fields := fds
  methods := ms
  attributes := attrs
def plain (name : String) (sup : Option ClassId) : Class where
  name := name
  kind := .ordinary
  loader := none
  accessFlags := 33
  super := sup
  interfaces := #[]
  cf := none
  fields := #[]
  methods := #[]
  instanceTypes := #[]
  staticTypes := #[]
  resolved := #[]
  callSites := []
  init := .initialized
  statics := none
  mirror := none

def pool0 : Array CpInfo := pool [(5, u "<init>"), (0, u "()V"), (1, .class_ 10), (1, u "java/lang/Object"), (85, u "clone"), (0, u "()Ljava/lang/Object;")] 26

def k0c0 : Code := { maxStack := 0, maxLocals := 1, code := object_method_1_code, exceptionTable := #[], attributes := #[] }
def k0m0 : Method := { name := "<init>", desc := "()V", sig := { parameters := [], returnType := none }, accessFlags := 1, code := some k0c0 }
def k0m1 : Method := { name := "clone", desc := "()Ljava/lang/Object;", sig := { parameters := [], returnType := some (.object "java/lang/Object") }, accessFlags := 260, code := none }
/-- java/lang/Object -/
def k0 : Class := { plain "java/lang/Object" none with
  accessFlags := 33
  interfaces := #[]
  cf := some (fileOf pool0 8 #[] #[{ accessFlags := 1, nameIndex := 5, descriptorIndex := 6, attributes := #[] }, { accessFlags := 260, nameIndex := 96, descriptorIndex := 97, attributes := #[] }] 33 0 #[] #[])
  fields := #[]
  methods := #[k0m0, k0m1]
  instanceTypes := #[]
  staticTypes := #[]
  resolved := Array.replicate 124 none
  statics := none }

def pool1 : Array CpInfo := pool [(2, .class_ 4), (1, u "java/lang/Object"), (0, u "<init>"), (0, u "()V"), (0, .integer 65535), (0, .class_ 9), (0, u "com/example/appenddb/appenddb/HostAddress"), (0, .methodref 8 11), (0, .nameAndType 5 12), (0, u "([BI)V"), (0, .methodref 8 14), (0, .nameAndType 15 16), (0, u "isIpv6"), (0, u "()Z"), (0, .methodref 8 18), (0, .nameAndType 19 20), (0, u "encodedLength"), (0, u "()I"), (0, .methodref 8 22), (0, .nameAndType 23 24), (0, u "getAddress"), (0, u "()[B"), (0, .class_ 26), (0, u "com/example/appenddb/appenddb/HostAddressIsIpv6PinLaw"), (2, u "law"), (0, u "(IJJI)Z")] 5

def k1m0 : Method := { name := "<init>", desc := "()V", sig := { parameters := [], returnType := none }, accessFlags := 1, code := none }
def k1c1 : Code := { maxStack := 5, maxLocals := 15, code := code, exceptionTable := #[], attributes := #[] }
def k1m1 : Method := { name := "law", desc := "(IJJI)Z", sig := { parameters := [.int, .long, .long, .int], returnType := some .boolean }, accessFlags := 9, code := some k1c1 }
/-- com/example/appenddb/appenddb/HostAddressIsIpv6PinLaw -/
def k1 : Class := { plain "com/example/appenddb/appenddb/HostAddressIsIpv6PinLaw" (some 0) with
  accessFlags := 49
  interfaces := #[]
  cf := some (fileOf pool1 25 #[] #[{ accessFlags := 1, nameIndex := 5, descriptorIndex := 6, attributes := #[] }, { accessFlags := 9, nameIndex := 29, descriptorIndex := 30, attributes := #[] }] 49 2 #[] #[])
  fields := #[]
  methods := #[k1m0, k1m1]
  instanceTypes := #[]
  staticTypes := #[]
  resolved := Array.replicate 36 none
  statics := none }

def pool2 : Array CpInfo := pool [(1, .methodref 2 3), (0, .class_ 4), (0, .nameAndType 5 6), (0, u "java/lang/Object"), (0, u "<init>"), (0, u "()V"), (9, .class_ 17), (0, u "com/example/appenddb/appenddb/HostAddress"), (0, .integer 65535), (1, .methodref 21 22), (0, .class_ 23), (0, .nameAndType 24 25), (0, u "[B"), (0, u "clone"), (0, u "()Ljava/lang/Object;"), (0, .fieldref 16 27), (0, .nameAndType 28 23), (0, u "address"), (0, .fieldref 16 30), (0, .nameAndType 31 32), (0, u "port"), (0, u "I"), (2, u "IPV4"), (0, u "Ljava/util/regex/Pattern;"), (11, u "()Z"), (14, u "([BI)V"), (2, u "IPV6"), (8, u "getAddress"), (0, u "()[B"), (26, u "()I"), (12, u "isIpv6"), (35, u "MAX_PORT"), (9, u "encodedLength")] 35

def k2c0 : Code := { maxStack := 3, maxLocals := 3, code := prog_4_method_1_code, exceptionTable := #[], attributes := #[] }
def k2m0 : Method := { name := "<init>", desc := "([BI)V", sig := { parameters := [(.array .byte), .int], returnType := none }, accessFlags := 1, code := some k2c0 }
def k2c1 : Code := { maxStack := 1, maxLocals := 1, code := prog_4_method_3_code, exceptionTable := #[], attributes := #[] }
def k2m1 : Method := { name := "getAddress", desc := "()[B", sig := { parameters := [], returnType := some (.array .byte) }, accessFlags := 1, code := some k2c1 }
def k2c2 : Code := { maxStack := 2, maxLocals := 1, code := prog_4_method_5_code, exceptionTable := #[], attributes := #[] }
def k2m2 : Method := { name := "isIpv6", desc := "()Z", sig := { parameters := [], returnType := some .boolean }, accessFlags := 1, code := some k2c2 }
def k2c3 : Code := { maxStack := 2, maxLocals := 1, code := prog_4_method_6_code, exceptionTable := #[], attributes := #[] }
def k2m3 : Method := { name := "encodedLength", desc := "()I", sig := { parameters := [], returnType := some .int }, accessFlags := 0, code := some k2c3 }
/-- com/example/appenddb/appenddb/HostAddress -/
def k2 : Class := { plain "com/example/appenddb/appenddb/HostAddress" (some 0) with
  accessFlags := 49
  interfaces := #[]
  cf := some (fileOf pool2 16 #[] #[{ accessFlags := 1, nameIndex := 5, descriptorIndex := 63, attributes := #[] }, { accessFlags := 1, nameIndex := 75, descriptorIndex := 76, attributes := #[] }, { accessFlags := 1, nameIndex := 116, descriptorIndex := 48, attributes := #[] }, { accessFlags := 0, nameIndex := 162, descriptorIndex := 103, attributes := #[] }] 49 2 #[] #[{ accessFlags := 26, nameIndex := 35, descriptorIndex := 36, attributes := #[] }, { accessFlags := 26, nameIndex := 66, descriptorIndex := 36, attributes := #[] }, { accessFlags := 26, nameIndex := 152, descriptorIndex := 32, attributes := #[] }, { accessFlags := 18, nameIndex := 28, descriptorIndex := 23, attributes := #[] }, { accessFlags := 18, nameIndex := 31, descriptorIndex := 32, attributes := #[] }])
  fields := #[{ name := "IPV4", type := (.object "java/util/regex/Pattern"), accessFlags := 26, slot := 0, constantValue := 0 }, { name := "IPV6", type := (.object "java/util/regex/Pattern"), accessFlags := 26, slot := 1, constantValue := 0 }, { name := "MAX_PORT", type := .int, accessFlags := 26, slot := 2, constantValue := 0 }, { name := "address", type := (.array .byte), accessFlags := 18, slot := 0, constantValue := 0 }, { name := "port", type := .int, accessFlags := 18, slot := 1, constantValue := 0 }]
  methods := #[k2m0, k2m1, k2m2, k2m3]
  instanceTypes := #[(.array .byte), .int]
  staticTypes := #[(.object "java/util/regex/Pattern"), (.object "java/util/regex/Pattern"), .int]
  resolved := Array.replicate 198 none
  statics := none }

def pool3 : Array CpInfo := pool [(1, .class_ 2), (0, u "java/lang/Cloneable"), (0, .class_ 4), (0, u "java/lang/Object")] 2

/-- java/lang/Cloneable -/
def k3 : Class := { plain "java/lang/Cloneable" (some 0) with
  accessFlags := 1537
  interfaces := #[]
  cf := some (fileOf pool3 1 #[] #[] 1537 3 #[] #[])
  fields := #[]
  methods := #[]
  instanceTypes := #[]
  staticTypes := #[]
  resolved := Array.replicate 7 none
  statics := none }

def pool4 : Array CpInfo := pool [(1, u "java/io/Serializable"), (0, .class_ 1), (0, u "java/lang/Object"), (0, .class_ 3)] 3

/-- java/io/Serializable -/
def k4 : Class := { plain "java/io/Serializable" (some 0) with
  accessFlags := 1537
  interfaces := #[]
  cf := some (fileOf pool4 2 #[] #[] 1537 4 #[] #[])
  fields := #[]
  methods := #[]
  instanceTypes := #[]
  staticTypes := #[]
  resolved := Array.replicate 8 none
  statics := none }

/-- the primitive byte -/
def k5 : Class := { plain "byte" none with kind := .primitive 'B', accessFlags := 0x411 }
/-- [B -/
def k6 : Class := { plain "[B" (some 0) with kind := .array 5 .byte, interfaces := #[3, 4], accessFlags := 1041 }

/-- the primitive int -/
def k7 : Class := { plain "int" none with kind := .primitive 'I', accessFlags := 0x411 }
/-- [I -/
def k8 : Class := { plain "[I" (some 0) with kind := .array 7 .int, interfaces := #[3, 4], accessFlags := 1041 }

def heap : Heap := #[]
def classes : Array Class := #[k0, k1, k2, k3, k4, k5, k6, k7, k8]
def interned : List (Array UInt16 × Addr) := []
def slotsUsed : Nat := 0
def theMethod : MethodId := ⟨1, 1⟩
def args0 : Array Value := #[.int 5, .long 5, .long 5, .int 5]
def aboutOver (below : List Frame) : State where
  vm := { classes := classes, interned := interned.toArray }
  heap := heap
  slotsUsed := slotsUsed
  threads := #[{ frames := .invoking theMethod args0 :: below }]
def below0 : List Frame := [.native { method := ⟨0, 0⟩, args := #[] }]
def about1 : State := aboutOver below0
def p0 : Program := .bare "" "" ""
def e0 : Env := launch0.env 0 0 0
theorem w_frames : about1.frames = Frame.invoking theMethod args0 :: below0 := rfl
set_option maxRecDepth 65536 in
theorem w_args : argsFit about1.vm theMethod args0 = true := by decide +kernel
set_option maxRecDepth 65536 in
theorem w_heap : heapFits about1 = true := by decide +kernel
set_option maxRecDepth 65536 in
theorem w_runnable : about1.curStatus? = some .runnable := by decide +kernel
set_option maxRecDepth 65536 in
theorem w_alone : about1.alone = true := by decide +kernel
set_option maxRecDepth 65536 in
theorem w_named : about1.methodNamed? x = some theMethod := by decide +kernel
set_option maxRecDepth 65536 in
theorem w_hears : about1.hears theMethod below0 = true := by decide +kernel
set_option maxRecDepth 65536 in
theorem w_ripe : about1.ripe theMethod args0 below0 = true := by decide +kernel
theorem w_running : about1.status = .running := rfl
set_option maxRecDepth 65536 in
theorem w_room : about1.hasRoom e0.platform room_1 = true :=
  launch0.hasRoom_least _ room_1 (by decide +kernel) (by decide +kernel) (by decide +kernel) (by decide +kernel) (by decide +kernel) (by decide +kernel)
theorem allAtoms_all (ts : List Jvm.Cond) (a : Array Jvm.Value) (st : Jvm.State) : (allAtoms ts).before a st = ts.all (fun c => c.before a st) := by
  induction ts with
  | nil => rfl
  | cons c t ih =>
    show (Jvm.Cond.and c (allAtoms t)).before a st = _
    rw [Jvm.Cond.before_and, ih, List.all_cons]
def words1 : List Jvm.Cond := Jvm.Cond.code x code maxLocals ret :: tables_1
/-- a 'code' word, met by the world's own term for the bytes: nothing is compared byte by byte -/
theorem code_word {y : MethodName} {bytes : ByteArray} {mx : Nat} {rt : Option FieldType} {a : Array Value} {s : State} {m : MethodId} {meth : Method} {c : Code} (h1 : s.methodNamed? y = some m) (h2 : s.vm.method? m = some meth) (h3 : meth.code = some c) (h4 : c.code = bytes)
    (h5 : (c.maxLocals == mx && c.exceptionTable.isEmpty && decide (c.maxStack ≤ mostOperands) && decide (meth.sig.returnType = rt) && !meth.locks && decide (parseMethodDescriptor y.desc = some meth.sig)) = true) : (Jvm.Cond.code y bytes mx rt).before a s = true := by
  simp only [Bool.and_eq_true, beq_iff_eq, Bool.not_eq_true', decide_eq_true_eq] at h5
  obtain ⟨⟨⟨⟨⟨g1, g2⟩, g3⟩, g4⟩, g5⟩, g6⟩ := h5
  simp [Cond.before, Cond.holds, Cond.value, h1, h2, h3, h4, g1, g2, g3, g4, g5, g6]
def isCode : Jvm.Cond → Bool
  | .code _ _ _ _ => true
  | _ => false
theorem all_split {L : List Jvm.Cond} {P : Jvm.Cond → Bool} (h1 : L.all (fun c => isCode c || P c) = true) (h2 : ∀ c ∈ L.filter isCode, P c = true) : L.all P = true := by
  refine List.all_eq_true.mpr fun c hc => ?_
  have h := List.all_eq_true.mp h1 c hc
  rcases Bool.eq_false_or_eq_true (isCode c) with hi | hi
  · exact h2 c (List.mem_filter.mpr ⟨hc, hi⟩)
  · simpa [hi] using h
set_option maxRecDepth 65536 in
theorem w_c0 : (Jvm.Cond.code x code maxLocals ret).before args0 about1 = true := code_word (m := ⟨1, 1⟩) (meth := k1m1) (c := k1c1) (by decide +kernel) rfl rfl rfl (by decide +kernel)
set_option maxRecDepth 65536 in
theorem w_c1 : (Jvm.Cond.code ({ cls := "com/example/appenddb/appenddb/HostAddress", name := "<init>", desc := "([BI)V" } : Jvm.MethodName) prog_4_method_1_code (3 : Nat) (Option.none : Option Jvm.ClassFile.FieldType)).before args0 about1 = true := code_word (m := ⟨2, 0⟩) (meth := k2m0) (c := k2c0) (by decide +kernel) rfl rfl rfl (by decide +kernel)
set_option maxRecDepth 65536 in
theorem w_c2 : (Jvm.Cond.code ({ cls := "java/lang/Object", name := "<init>", desc := "()V" } : Jvm.MethodName) object_method_1_code (1 : Nat) (Option.none : Option Jvm.ClassFile.FieldType)).before args0 about1 = true := code_word (m := ⟨0, 0⟩) (meth := k0m0) (c := k0c0) (by decide +kernel) rfl rfl rfl (by decide +kernel)
set_option maxRecDepth 65536 in
theorem w_c3 : (Jvm.Cond.code ({ cls := "com/example/appenddb/appenddb/HostAddress", name := "isIpv6", desc := "()Z" } : Jvm.MethodName) prog_4_method_5_code (1 : Nat) (Option.some Jvm.ClassFile.FieldType.boolean)).before args0 about1 = true := code_word (m := ⟨2, 2⟩) (meth := k2m2) (c := k2c2) (by decide +kernel) rfl rfl rfl (by decide +kernel)
set_option maxRecDepth 65536 in
theorem w_c4 : (Jvm.Cond.code ({ cls := "com/example/appenddb/appenddb/HostAddress", name := "encodedLength", desc := "()I" } : Jvm.MethodName) prog_4_method_6_code (1 : Nat) (Option.some Jvm.ClassFile.FieldType.int)).before args0 about1 = true := code_word (m := ⟨2, 3⟩) (meth := k2m3) (c := k2c3) (by decide +kernel) rfl rfl rfl (by decide +kernel)
set_option maxRecDepth 65536 in
theorem w_c5 : (Jvm.Cond.code ({ cls := "com/example/appenddb/appenddb/HostAddress", name := "getAddress", desc := "()[B" } : Jvm.MethodName) prog_4_method_3_code (1 : Nat) (Option.some (Jvm.ClassFile.FieldType.array Jvm.ClassFile.FieldType.byte))).before args0 about1 = true := code_word (m := ⟨2, 1⟩) (meth := k2m1) (c := k2c1) (by decide +kernel) rfl rfl rfl (by decide +kernel)
def codes1 : List Jvm.Cond := [Jvm.Cond.code x code maxLocals ret, Jvm.Cond.code ({ cls := "com/example/appenddb/appenddb/HostAddress", name := "<init>", desc := "([BI)V" } : Jvm.MethodName) prog_4_method_1_code (3 : Nat) (Option.none : Option Jvm.ClassFile.FieldType), Jvm.Cond.code ({ cls := "java/lang/Object", name := "<init>", desc := "()V" } : Jvm.MethodName) object_method_1_code (1 : Nat) (Option.none : Option Jvm.ClassFile.FieldType), Jvm.Cond.code ({ cls := "com/example/appenddb/appenddb/HostAddress", name := "isIpv6", desc := "()Z" } : Jvm.MethodName) prog_4_method_5_code (1 : Nat) (Option.some Jvm.ClassFile.FieldType.boolean), Jvm.Cond.code ({ cls := "com/example/appenddb/appenddb/HostAddress", name := "encodedLength", desc := "()I" } : Jvm.MethodName) prog_4_method_6_code (1 : Nat) (Option.some Jvm.ClassFile.FieldType.int), Jvm.Cond.code ({ cls := "com/example/appenddb/appenddb/HostAddress", name := "getAddress", desc := "()[B" } : Jvm.MethodName) prog_4_method_3_code (1 : Nat) (Option.some (Jvm.ClassFile.FieldType.array Jvm.ClassFile.FieldType.byte))]
set_option maxRecDepth 65536 in
theorem codes_eq : words1.filter isCode = codes1 := rfl
theorem w_codes : ∀ c ∈ words1.filter isCode, c.before args0 about1 = true := by
  rw [codes_eq]
  intro c hc
  simp only [codes1, List.mem_cons, List.not_mem_nil, or_false] at hc
  rcases hc with rfl | rfl | rfl | rfl | rfl | rfl
  · exact w_c0
  · exact w_c1
  · exact w_c2
  · exact w_c3
  · exact w_c4
  · exact w_c5
set_option maxRecDepth 65536 in
theorem w_t1 : (words1.take 24).all (fun c => isCode c || c.before args0 about1) = true := by decide +kernel
set_option maxRecDepth 65536 in
theorem w_t2 : (words1.drop 24).all (fun c => isCode c || c.before args0 about1) = true := by decide +kernel
theorem w_tables : (allAtoms (Jvm.Cond.code x code maxLocals ret :: tables_1)).before args0 about1 = true := by
  rw [allAtoms_all]
  show words1.all (fun c => c.before args0 about1) = true
  refine all_split ?_ w_codes
  rw [← List.take_append_drop 24 words1, List.all_append, w_t1, w_t2]
  rfl
set_option maxRecDepth 65536 in
theorem w_case : (Jvm.Cond.and given_1 narrow_1).before args0 about1 = true := by decide +kernel
theorem w_applies : (headSpec (Jvm.Cond.code x code maxLocals ret :: tables_1) room_1).applies x e0.platform about1 = true :=
  (Spec.applies_iff w_frames).mpr ⟨w_running, w_runnable, w_alone, w_named, w_hears, w_ripe, w_room, w_tables⟩
theorem atStart : AtStart classFile x code maxLocals ret World_1 tables_1 room_1 Calls_1 rest_1 Pre_1 launch0 p0 e0 about1 theMethod args0 below0 :=
  ⟨lists_1, trivial, launch0.admits_env _ _ _, launch0.least_env, fairChoices_fair.cas, fairChoices_fair.clock, w_frames, w_args, w_heap, w_applies, trivial, trivial, w_case⟩
end start1
theorem witness_1 : WitnessClaimed_1 := ⟨start1.p0, start1.e0, start1.about1, start1.theMethod, start1.args0, start1.below0, start1.atStart⟩
end Jvm.Pilot.@@N@@
