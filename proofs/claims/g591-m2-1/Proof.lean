import JvmDerived
import JvmDerived.Pilot.@@N@@Statement
import JvmDerived.Pilot.@@N@@Code
set_option linter.unusedVariables false
set_option linter.unusedSimpArgs false
namespace Jvm.RoadKit
open Sem ClassFile Op Lib Jvm.Stand Jvm.Free Jvm.LawKit
section Own
variable {p : Program} {l : Launch} {e : Env} {R : Room} {s : State} {m : MethodId} {args : Array Value} {below : List Frame} {meth : Method} {c : Code} {T : State} {locs : List Loc} {cells slots : Nat}
/-- from S the run comes to an end of which K holds -/
def own_Go (p : Program) (e : Env) (below : List Frame) (K : State → Outcome → Prop) (S : State) : Prop := ∃ t o, Steps p.tables e below S t ∧ t.status = .running ∧ Ended t below o ∧ K t o
def own_K (s : State) (Q : Option Value → Heap → List Loc → Prop) (k n : Nat) (t : State) (o : Outcome) : Prop := ∃ v L, o = .returned v ∧ Q v t.heap L ∧ FrameEnd s o t L k n
theorem own_go {K : State → Outcome → Prop} {S S' : State} (h : ∀ t, Steps p.tables e below S' t → Steps p.tables e below S t) (g : own_Go p e below K S') : own_Go p e below K S := by
  obtain ⟨t, o, h1, h2⟩ := g; exact ⟨t, o, h t h1, h2⟩
theorem own_via {K : State → Outcome → Prop} {S S' : State} (h : Steps p.tables e below S S') (g : own_Go p e below K S') : own_Go p e below K S := by
  obtain ⟨t, o, h1, h2⟩ := g; exact ⟨t, o, h.trans h1, h2⟩
variable {Q : Option Value → Heap → List Loc → Prop} {k n : Nat}
theorem own_end (X : Stand p l e R s m args below meth c T locs cells slots) {v : Option Value} (hlk : meth.locks = false) (hv : meth.sig.returnType = none → v = none) (hk : cells ≤ k) (hn : slots ≤ n) (hQ : Q v T.heap locs) {S : State}
    (st : ∀ fs, (∀ (f : JFrame) (acts : List Action), f.method = m → f.locked = none → f.entered = [] → (doReturn e (T.setTop f) acts v).1 = T.setFrames fs) → Steps p.tables e below S (T.setFrames fs)) : own_Go p e below (own_K s Q k n) S := by
  obtain ⟨fs, hr, hrun, hended, hW, hsame⟩ := X.leave hv hlk
  exact ⟨_, _, st fs hr, hrun, hended, v, locs, rfl, hQ, ⟨_, rfl⟩, hW, hsame.mono hk hn⟩
theorem own_ret0 (X : Stand p l e R s m args below meth c T locs cells slots) (hx : p.tables.exec = Jvm.exec) (hlk : meth.locks = false) (hret : meth.sig.returnType = none) {pc : Nat} {Ls : Array Slot} (hd : decode c.code pc = .ok (.return_, 1)) (hk : cells ≤ k) (hn : slots ≤ n) (hQ : Q none T.heap locs) :
    own_Go p e below (own_K s Q k n) (T.setTop (mkF m pc Ls [])) := own_end X hlk (fun _ => rfl) hk hn hQ fun _ hr => X.returnOut hx hret hd hr
theorem own_retN (X : Stand p l e R s m args below meth c T locs cells slots) (hx : p.tables.exec = Jvm.exec) (hlk : meth.locks = false) {t : FieldType} (hret : meth.sig.returnType = some t) (ht : t = .boolean ∨ t = .byte ∨ t = .char ∨ t = .short) {pc : Nat} {Ls : Array Slot} {z : Int32} {rest : List Value} (hd : decode c.code pc = .ok (.ireturn, 1)) (hk : cells ≤ k) (hn : slots ≤ n) (hQ : Q (some (.int (nar t z))) T.heap locs) :
    own_Go p e below (own_K s Q k n) (T.setTop (mkF m pc Ls (.int z :: rest))) := own_end X hlk (fun h => by rw [hret] at h; cases h) hk hn hQ fun _ hr => retN X hx hret ht hd hr
theorem own_retI (X : Stand p l e R s m args below meth c T locs cells slots) (hx : p.tables.exec = Jvm.exec) (hlk : meth.locks = false) (hret : meth.sig.returnType = some .int) {pc : Nat} {Ls : Array Slot} {z : Int32} {rest : List Value} (hd : decode c.code pc = .ok (.ireturn, 1)) (hk : cells ≤ k) (hn : slots ≤ n) (hQ : Q (some (.int z)) T.heap locs) :
    own_Go p e below (own_K s Q k n) (T.setTop (mkF m pc Ls (.int z :: rest))) := own_end X hlk (fun h => by rw [hret] at h; cases h) hk hn hQ fun _ hr => retOut X hx hret rfl (Or.inl ⟨rfl, Or.inl rfl, z, rfl⟩) hd hr
theorem own_retJ (X : Stand p l e R s m args below meth c T locs cells slots) (hx : p.tables.exec = Jvm.exec) (hlk : meth.locks = false) (hret : meth.sig.returnType = some .long) {pc : Nat} {Ls : Array Slot} {z : Int64} {rest : List Value} (hd : decode c.code pc = .ok (.lreturn, 1)) (hk : cells ≤ k) (hn : slots ≤ n) (hQ : Q (some (.long z)) T.heap locs) :
    own_Go p e below (own_K s Q k n) (T.setTop (mkF m pc Ls (.long z :: rest))) := own_end X hlk (fun h => by rw [hret] at h; cases h) hk hn hQ fun _ hr => retOut X hx hret rfl (Or.inr (Or.inl ⟨rfl, rfl, z, rfl⟩)) hd hr
theorem own_retR (X : Stand p l e R s m args below meth c T locs cells slots) (hx : p.tables.exec = Jvm.exec) (hlk : meth.locks = false) {t : FieldType} (hret : meth.sig.returnType = some t) (ht : t.isReference = true) {pc : Nat} {Ls : Array Slot} {w : Value} {rest : List Value} (hw : w.isRef = true) (hd : decode c.code pc = .ok (.areturn, 1)) (hk : cells ≤ k) (hn : slots ≤ n) (hQ : Q (some w) T.heap locs) :
    own_Go p e below (own_K s Q k n) (T.setTop (mkF m pc Ls (w :: rest))) := own_end X hlk (fun h => by rw [hret] at h; cases h) hk hn hQ fun _ hr => retOut X hx hret (by cases t <;> first | rfl | cases ht) (Or.inr (Or.inr (Or.inr (Or.inr ⟨rfl, ht, hw⟩)))) hd hr
section Arrays
variable {Z : State} {h : Heap} {a : Addr} {k : ClassId} {ty : FieldType} {z : Int32} {vs : List Value} {dv : Value}
theorem own_iaload {g : JFrame} {target : State} (X : Stand p l e R s m args below meth c T locs cells slots) (hx : p.tables.exec = Jvm.exec) (hZ : Z.Warmed39 s.vm) (eT : T.heap = h) (F : Arv Z h a k .int z vs dv) (j : Int32) (v : Value) (hj : ¬ j < 0 ∧ j < z) (hat : vs.getD j.toNatClampNeg dv = v) (hg : g.method = m) {rest : List Value} (hs : g.stack = .int j :: .ref a :: rest) (hd : decode c.code g.pc = .ok (.iaload, 1))
    (hr : Steps p.tables e below (T.setTop { g with pc := g.pc + 1, stack := v :: rest }) target) : Steps p.tables e below (T.setTop g) target := by
  obtain ⟨cl, A, q, S, N, H, G⟩ := F
  have hi := inb_of S hj
  exact X.iaload hx (j := j) (v := v) (by rw [eT]; exact A.1) (State.isArrayOf_alike hZ.alike A.2.1) A.2.2 hi (Has.at H hi hat) hg hs hd _ hr
theorem own_caload {g : JFrame} {target : State} (X : Stand p l e R s m args below meth c T locs cells slots) (hx : p.tables.exec = Jvm.exec) (hZ : Z.Warmed39 s.vm) (eT : T.heap = h) (F : Arv Z h a k .char z vs dv) (j : Int32) (v : Value) (hj : ¬ j < 0 ∧ j < z) (hat : vs.getD j.toNatClampNeg dv = v) (hg : g.method = m) {rest : List Value} (hs : g.stack = .int j :: .ref a :: rest) (hd : decode c.code g.pc = .ok (.caload, 1))
    (hr : Steps p.tables e below (T.setTop { g with pc := g.pc + 1, stack := v :: rest }) target) : Steps p.tables e below (T.setTop g) target := by
  obtain ⟨cl, A, q, S, N, H, G⟩ := F
  have hi := inb_of S hj
  exact X.caload hx (j := j) (v := v) (by rw [eT]; exact A.1) (State.isArrayOf_alike hZ.alike A.2.1) A.2.2 hi (Has.at H hi hat) hg hs hd _ hr
theorem own_saload {g : JFrame} {target : State} (X : Stand p l e R s m args below meth c T locs cells slots) (hx : p.tables.exec = Jvm.exec) (hZ : Z.Warmed39 s.vm) (eT : T.heap = h) (F : Arv Z h a k .short z vs dv) (j : Int32) (v : Value) (hj : ¬ j < 0 ∧ j < z) (hat : vs.getD j.toNatClampNeg dv = v) (hg : g.method = m) {rest : List Value} (hs : g.stack = .int j :: .ref a :: rest) (hd : decode c.code g.pc = .ok (.saload, 1))
    (hr : Steps p.tables e below (T.setTop { g with pc := g.pc + 1, stack := v :: rest }) target) : Steps p.tables e below (T.setTop g) target := by
  obtain ⟨cl, A, q, S, N, H, G⟩ := F
  have hi := inb_of S hj
  exact X.saload hx (j := j) (v := v) (by rw [eT]; exact A.1) (State.isArrayOf_alike hZ.alike A.2.1) A.2.2 hi (Has.at H hi hat) hg hs hd _ hr
theorem own_baload {g : JFrame} {target : State} (X : Stand p l e R s m args below meth c T locs cells slots) (hx : p.tables.exec = Jvm.exec) (hZ : Z.Warmed39 s.vm) (eT : T.heap = h) (F : Arv Z h a k .byte z vs dv) (j : Int32) (v : Value) (hj : ¬ j < 0 ∧ j < z) (hat : vs.getD j.toNatClampNeg dv = v) (hg : g.method = m) {rest : List Value} (hs : g.stack = .int j :: .ref a :: rest) (hd : decode c.code g.pc = .ok (.baload, 1))
    (hr : Steps p.tables e below (T.setTop { g with pc := g.pc + 1, stack := v :: rest }) target) : Steps p.tables e below (T.setTop g) target := by
  obtain ⟨cl, A, q, S, N, H, G⟩ := F
  have hi := inb_of S hj
  exact X.baloadBytes hx (j := j) (v := v) (by rw [eT]; exact A.1) (State.isArrayOf_alike hZ.alike A.2.1) A.2.2 hi (Has.at H hi hat) hg hs hd _ hr
theorem own_zaload {g : JFrame} {target : State} (X : Stand p l e R s m args below meth c T locs cells slots) (hx : p.tables.exec = Jvm.exec) (hZ : Z.Warmed39 s.vm) (eT : T.heap = h) (F : Arv Z h a k .boolean z vs dv) (j : Int32) (v : Value) (hj : ¬ j < 0 ∧ j < z) (hat : vs.getD j.toNatClampNeg dv = v) (hg : g.method = m) {rest : List Value} (hs : g.stack = .int j :: .ref a :: rest) (hd : decode c.code g.pc = .ok (.baload, 1))
    (hr : Steps p.tables e below (T.setTop { g with pc := g.pc + 1, stack := v :: rest }) target) : Steps p.tables e below (T.setTop g) target := by
  obtain ⟨cl, A, q, S, N, H, G⟩ := F
  have hi := inb_of S hj
  exact X.baloadBooleans hx (j := j) (v := v) (by rw [eT]; exact A.1) (State.isArrayOf_alike hZ.alike A.2.1) A.2.2 hi (Has.at H hi hat) hg hs hd _ hr
theorem own_laload {g : JFrame} {target : State} (X : Stand p l e R s m args below meth c T locs cells slots) (hx : p.tables.exec = Jvm.exec) (hZ : Z.Warmed39 s.vm) (eT : T.heap = h) (F : Arv Z h a k .long z vs dv) (j : Int32) (v : Value) (hj : ¬ j < 0 ∧ j < z) (hat : vs.getD j.toNatClampNeg dv = v) (hg : g.method = m) {rest : List Value} (hs : g.stack = .int j :: .ref a :: rest) (hd : decode c.code g.pc = .ok (.laload, 1))
    (hr : Steps p.tables e below (T.setTop { g with pc := g.pc + 1, stack := v :: rest }) target) : Steps p.tables e below (T.setTop g) target := by
  obtain ⟨cl, A, q, S, N, H, G⟩ := F
  have hi := inb_of S hj
  exact X.laload hx (j := j) (v := v) (by rw [eT]; exact A.1) (State.isArrayOf_alike hZ.alike A.2.1) A.2.2 hi (Has.at H hi hat) hg hs hd _ hr
theorem own_aaload {g : JFrame} {target : State} (X : Stand p l e R s m args below meth c T locs cells slots) (hx : p.tables.exec = Jvm.exec) (hZ : Z.Warmed39 s.vm) (eT : T.heap = h) (F : Arv Z h a k ty z vs dv) (j : Int32) (v : Value) (hj : ¬ j < 0 ∧ j < z) (hat : vs.getD j.toNatClampNeg dv = v) (hty : ty.isReference = true) (hg : g.method = m) {rest : List Value} (hs : g.stack = .int j :: .ref a :: rest) (hd : decode c.code g.pc = .ok (.aaload, 1))
    (hr : Steps p.tables e below (T.setTop { g with pc := g.pc + 1, stack := v :: rest }) target) : Steps p.tables e below (T.setTop g) target := by
  obtain ⟨cl, A, q, S, N, H, G⟩ := F
  have hi := inb_of S hj
  exact X.aaload hx (j := j) (v := v) (by rw [eT]; exact A.1) (State.isArrayOf_alike hZ.alike A.2.1) hty A.2.2 hi (Has.at H hi hat) hg hs hd _ hr
theorem own_alen {g : JFrame} {target : State} (X : Stand p l e R s m args below meth c T locs cells slots) (hx : p.tables.exec = Jvm.exec) (hZ : Z.Warmed39 s.vm) (eT : T.heap = h) (F : Arv Z h a k ty z vs dv) (hg : g.method = m) {rest : List Value} (hs : g.stack = .ref a :: rest) (hd : decode c.code g.pc = .ok (.arraylength, 1))
    (hr : Steps p.tables e below (T.setTop { g with pc := g.pc + 1, stack := .int z :: rest }) target) : Steps p.tables e below (T.setTop g) target := by
  obtain ⟨cl, A, q, S, N, -, -⟩ := F
  exact X.arraylength hx (by rw [eT]; exact A.1) (State.isArrayOf_alike hZ.alike A.2.1) hg hs hd _ (by rw [len_of S N]; exact hr)
theorem own_stI {K : State → Outcome → Prop} {n0 : Nat} (X : Stand p l e R s m args below meth c T locs cells slots) (hx : p.tables.exec = Jvm.exec) (hZ : Z.Warmed39 s.vm) (eT : T.heap = h) (F : Arv Z h a k .int z vs dv) (j : Int32) (x : Int32) (i : Nat) (hj : ¬ j < 0 ∧ j < z) (hi : j.toNatClampNeg = i) (hl : i < vs.length) (vs' : List Value) (hv : vs.set i (.int x) = vs') (N : Fr n0 locs) (ge : n0 ≤ a) {pc : Nat} {Ls : Array Slot} {rest : List Value} (hd : decode c.code pc = .ok (.iastore, 1))
    (kk : ∀ (T' : State) (h' : Heap) (L' : List Loc), Stand p l e R s m args below meth c T' L' cells slots → T'.heap = h' → Wr h h' a i (.int x) → Fr n0 L' → Arv Z h' a k .int z vs' dv → own_Go p e below K (T'.setTop (mkF m (pc + 1) Ls rest))) : own_Go p e below K (T.setTop (mkF m pc Ls (.int x :: .int j :: .ref a :: rest))) := by
  obtain ⟨cl, A, q, S, M, H, G⟩ := F
  subst hi; subst hv
  obtain ⟨T', h', X', e', W, st⟩ := stI X hx hZ eT A (j := j) (inb_of S hj) (g := mkF m pc Ls (.int x :: .int j :: .ref a :: rest)) rfl rfl hd
  exact own_go st (kk T' h' _ X' e' W (Fr.snoc X' N ge) (Arv.set A q S M H G rfl W _ rfl hl))
theorem own_stJ {K : State → Outcome → Prop} {n0 : Nat} (X : Stand p l e R s m args below meth c T locs cells slots) (hx : p.tables.exec = Jvm.exec) (hZ : Z.Warmed39 s.vm) (eT : T.heap = h) (F : Arv Z h a k .long z vs dv) (j : Int32) (x : Int64) (i : Nat) (hj : ¬ j < 0 ∧ j < z) (hi : j.toNatClampNeg = i) (hl : i < vs.length) (vs' : List Value) (hv : vs.set i (.long x) = vs') (N : Fr n0 locs) (ge : n0 ≤ a) {pc : Nat} {Ls : Array Slot} {rest : List Value} (hd : decode c.code pc = .ok (.lastore, 1))
    (kk : ∀ (T' : State) (h' : Heap) (L' : List Loc), Stand p l e R s m args below meth c T' L' cells slots → T'.heap = h' → Wr h h' a i (.long x) → Fr n0 L' → Arv Z h' a k .long z vs' dv → own_Go p e below K (T'.setTop (mkF m (pc + 1) Ls rest))) : own_Go p e below K (T.setTop (mkF m pc Ls (.long x :: .int j :: .ref a :: rest))) := by
  obtain ⟨cl, A, q, S, M, H, G⟩ := F
  subst hi; subst hv
  obtain ⟨T', h', X', e', W, st⟩ := stJ X hx hZ eT A (j := j) (inb_of S hj) (g := mkF m pc Ls (.long x :: .int j :: .ref a :: rest)) rfl rfl hd
  exact own_go st (kk T' h' _ X' e' W (Fr.snoc X' N ge) (Arv.set A q S M H G rfl W _ rfl hl))
theorem own_stB {K : State → Outcome → Prop} {n0 : Nat} (X : Stand p l e R s m args below meth c T locs cells slots) (hx : p.tables.exec = Jvm.exec) (hZ : Z.Warmed39 s.vm) (eT : T.heap = h) (F : Arv Z h a k .byte z vs dv) (j : Int32) (x x' : Int32) (i : Nat) (hj : ¬ j < 0 ∧ j < z) (hi : j.toNatClampNeg = i) (hl : i < vs.length) (hn : nar .byte x = x') (vs' : List Value) (hv : vs.set i (.int x') = vs') (N : Fr n0 locs) (ge : n0 ≤ a) {pc : Nat} {Ls : Array Slot} {rest : List Value} (hd : decode c.code pc = .ok (.bastore, 1))
    (kk : ∀ (T' : State) (h' : Heap) (L' : List Loc), Stand p l e R s m args below meth c T' L' cells slots → T'.heap = h' → Wr h h' a i (.int x') → Fr n0 L' → Arv Z h' a k .byte z vs' dv → own_Go p e below K (T'.setTop (mkF m (pc + 1) Ls rest))) : own_Go p e below K (T.setTop (mkF m pc Ls (.int x :: .int j :: .ref a :: rest))) := by
  obtain ⟨cl, A, q, S, M, H, G⟩ := F
  subst hn; subst hi; subst hv
  obtain ⟨T', h', X', e', W, st⟩ := stB X hx hZ eT A (j := j) (inb_of S hj) (g := mkF m pc Ls (.int x :: .int j :: .ref a :: rest)) rfl rfl hd
  exact own_go st (kk T' h' _ X' e' W (Fr.snoc X' N ge) (Arv.set A q S M H G (fits_nar_byte _) W _ rfl hl))
theorem own_stZ {K : State → Outcome → Prop} {n0 : Nat} (X : Stand p l e R s m args below meth c T locs cells slots) (hx : p.tables.exec = Jvm.exec) (hZ : Z.Warmed39 s.vm) (eT : T.heap = h) (F : Arv Z h a k .boolean z vs dv) (j : Int32) (x x' : Int32) (i : Nat) (hj : ¬ j < 0 ∧ j < z) (hi : j.toNatClampNeg = i) (hl : i < vs.length) (hn : nar .boolean x = x') (vs' : List Value) (hv : vs.set i (.int x') = vs') (N : Fr n0 locs) (ge : n0 ≤ a) {pc : Nat} {Ls : Array Slot} {rest : List Value} (hd : decode c.code pc = .ok (.bastore, 1))
    (kk : ∀ (T' : State) (h' : Heap) (L' : List Loc), Stand p l e R s m args below meth c T' L' cells slots → T'.heap = h' → Wr h h' a i (.int x') → Fr n0 L' → Arv Z h' a k .boolean z vs' dv → own_Go p e below K (T'.setTop (mkF m (pc + 1) Ls rest))) : own_Go p e below K (T.setTop (mkF m pc Ls (.int x :: .int j :: .ref a :: rest))) := by
  obtain ⟨cl, A, q, S, M, H, G⟩ := F
  subst hn; subst hi; subst hv
  obtain ⟨T', h', X', e', W, st⟩ := stZ X hx hZ eT A (j := j) (inb_of S hj) (g := mkF m pc Ls (.int x :: .int j :: .ref a :: rest)) rfl rfl hd
  exact own_go st (kk T' h' _ X' e' W (Fr.snoc X' N ge) (Arv.set A q S M H G (fits_nar_bool _) W _ rfl hl))
theorem own_stC {K : State → Outcome → Prop} {n0 : Nat} (X : Stand p l e R s m args below meth c T locs cells slots) (hx : p.tables.exec = Jvm.exec) (hZ : Z.Warmed39 s.vm) (eT : T.heap = h) (F : Arv Z h a k .char z vs dv) (j : Int32) (x x' : Int32) (i : Nat) (hj : ¬ j < 0 ∧ j < z) (hi : j.toNatClampNeg = i) (hl : i < vs.length) (hn : nar .char x = x') (vs' : List Value) (hv : vs.set i (.int x') = vs') (N : Fr n0 locs) (ge : n0 ≤ a) {pc : Nat} {Ls : Array Slot} {rest : List Value} (hd : decode c.code pc = .ok (.castore, 1))
    (kk : ∀ (T' : State) (h' : Heap) (L' : List Loc), Stand p l e R s m args below meth c T' L' cells slots → T'.heap = h' → Wr h h' a i (.int x') → Fr n0 L' → Arv Z h' a k .char z vs' dv → own_Go p e below K (T'.setTop (mkF m (pc + 1) Ls rest))) : own_Go p e below K (T.setTop (mkF m pc Ls (.int x :: .int j :: .ref a :: rest))) := by
  obtain ⟨cl, A, q, S, M, H, G⟩ := F
  subst hn; subst hi; subst hv
  obtain ⟨T', h', X', e', W, st⟩ := stC X hx hZ eT A (j := j) (inb_of S hj) (g := mkF m pc Ls (.int x :: .int j :: .ref a :: rest)) rfl rfl hd
  exact own_go st (kk T' h' _ X' e' W (Fr.snoc X' N ge) (Arv.set A q S M H G (fits_nar_char _) W _ rfl hl))
theorem own_stS {K : State → Outcome → Prop} {n0 : Nat} (X : Stand p l e R s m args below meth c T locs cells slots) (hx : p.tables.exec = Jvm.exec) (hZ : Z.Warmed39 s.vm) (eT : T.heap = h) (F : Arv Z h a k .short z vs dv) (j : Int32) (x x' : Int32) (i : Nat) (hj : ¬ j < 0 ∧ j < z) (hi : j.toNatClampNeg = i) (hl : i < vs.length) (hn : nar .short x = x') (vs' : List Value) (hv : vs.set i (.int x') = vs') (N : Fr n0 locs) (ge : n0 ≤ a) {pc : Nat} {Ls : Array Slot} {rest : List Value} (hd : decode c.code pc = .ok (.sastore, 1))
    (kk : ∀ (T' : State) (h' : Heap) (L' : List Loc), Stand p l e R s m args below meth c T' L' cells slots → T'.heap = h' → Wr h h' a i (.int x') → Fr n0 L' → Arv Z h' a k .short z vs' dv → own_Go p e below K (T'.setTop (mkF m (pc + 1) Ls rest))) : own_Go p e below K (T.setTop (mkF m pc Ls (.int x :: .int j :: .ref a :: rest))) := by
  obtain ⟨cl, A, q, S, M, H, G⟩ := F
  subst hn; subst hi; subst hv
  obtain ⟨T', h', X', e', W, st⟩ := stS X hx hZ eT A (j := j) (inb_of S hj) (g := mkF m pc Ls (.int x :: .int j :: .ref a :: rest)) rfl rfl hd
  exact own_go st (kk T' h' _ X' e' W (Fr.snoc X' N ge) (Arv.set A q S M H G (fits_nar_short _) W _ rfl hl))
theorem own_stR {K : State → Outcome → Prop} {n0 : Nat} (X : Stand p l e R s m args below meth c T locs cells slots) (hx : p.tables.exec = Jvm.exec) (hZ : Z.Warmed39 s.vm) (eT : T.heap = h) (F : Arv Z h a k ty z vs dv) (j : Int32) (v : Value) (i : Nat) (hj : ¬ j < 0 ∧ j < z) (hi : j.toNatClampNeg = i) (hl : i < vs.length) (sto : ∀ cl : Cell, Arr Z h a cl ty → cl.cls = k → Sto Z h a v) (hty : ty.isReference = true) (vs' : List Value) (hv : vs.set i v = vs') (N : Fr n0 locs) (ge : n0 ≤ a) {pc : Nat} {Ls : Array Slot} {rest : List Value} (hd : decode c.code pc = .ok (.aastore, 1))
    (kk : ∀ (T' : State) (h' : Heap) (L' : List Loc), Stand p l e R s m args below meth c T' L' cells slots → T'.heap = h' → Wr h h' a i v → Fr n0 L' → Arv Z h' a k ty z vs' dv → own_Go p e below K (T'.setTop (mkF m (pc + 1) Ls rest))) : own_Go p e below K (T.setTop (mkF m pc Ls (v :: .int j :: .ref a :: rest))) := by
  obtain ⟨cl, A, q, S, M, H, G⟩ := F
  subst hi; subst hv
  have so := sto cl A q
  obtain ⟨T', h', X', e', W, st⟩ := stR X hx hZ eT A (j := j) (inb_of S hj) hty so (g := mkF m pc Ls (v :: .int j :: .ref a :: rest)) rfl rfl hd
  have fv : fits ty v = true := by
    rcases so with rfl | ⟨_, _, _, _, _, _, _, y, _, _, _, _, rfl, _⟩ <;> cases ty <;> first | rfl | cases hty
  exact own_go st (kk T' h' _ X' e' W (Fr.snoc X' N ge) (Arv.set A q S M H G fv W _ rfl hl))
end Arrays
section Calls
variable {own : String} {index : Nat} {y z : MethodName} {bytes : ByteArray} {maxL : Nat} {ret : Option FieldType} {rm : Room} {W : Nat} {as' : Array Value} {Z : State} {a0 : Array Value} {h : Heap} {K : State → Outcome → Prop} {pc : Nat} {Ls : Array Slot} {argsL rest stk : List Value} {C : String} {b : Addr}
theorem own_cs (X : Stand p l e R s m args below meth c T locs cells slots) (hx : p.tables.exec = Jvm.exec) (hZ : Z.Warmed39 s.vm) (hown : s.vm.findClass own = some m.cls) (w1 : (Cond.methodLink own index y).before a0 Z = true) (w2 : (Cond.static y).before a0 Z = true) (w3 : (Cond.initialized y.cls).before a0 Z = true) (w4 : (Cond.code y bytes maxL ret).before a0 Z = true)
    (hy : y.cls ≠ "java/lang/invoke/MethodHandle" ∧ y.cls ≠ "java/lang/invoke/VarHandle")
    (hM : MetFree l y (head1 [Cond.code y bytes maxL ret] rm) (fun a U => a = as' ∧ Z.Warmed39 U.vm ∧ U.heap = h) (fun _ _ _ _ _ => True) (fun _ U o U' => ∃ v L, o = .returned v ∧ Q v U'.heap L ∧ FrameEnd U o U' L rm.cells rm.slots))
    (hf : rm.frames + 1 ≤ R.frames) (hl : W + (maxL + 11) + rm.locals ≤ R.locals) (hc : cells + rm.cells ≤ R.cells) (hs : slots + rm.slots ≤ R.slots) (eT : T.heap = h) (hsz : Ls.size = c.maxLocals) (hlen : ∀ sig, parseMethodDescriptor y.desc = some sig → argsL.length = sig.parameters.length)
    (hst : stk = argsL.reverse ++ rest) (has : argsL.toArray = as') (hW : (rest.map fun v => v.category).sum ≤ W) (hd : decode c.code pc = .ok (.invokestatic index, 3))
    (k : ∀ (v : Option Value) (T' : State) (L : List Loc), Stand p l e R s m args below meth c T' (locs ++ L) (cells + rm.cells) (slots + rm.slots) → Q v T'.heap L → own_Go p e below K (T'.setTop (mkF m (pc + 3) Ls (v.toList ++ rest)))) : own_Go p e below K (T.setTop (mkF m pc Ls stk)) := by
  obtain ⟨v, _, ⟨T', L', k', n'⟩, -, X', ⟨L, hQ, h1, h2, h3⟩, st⟩ := Jvm.LawKit.callS X hx (y := y) hown (mvT hZ w1) (mvT hZ w2) (mvT hZ w3) (mvT hZ w4) hy (backOf (W := W) hM hZ w4 w3 hf hl) (g := mkF m pc Ls stk) rfl hsz (argsL := argsL) (rest := rest) hlen hst (by show 2 * 0 + _ ≤ _; simpa using hW) hd (fun _ _ => ⟨has, eT, hc, hs⟩)
  dsimp only [Pt.U, Pt.locs, Pt.cells, Pt.slots] at X' h1 h2 h3 st hQ
  subst h1 h2 h3
  exact own_go st (k v T' L X' hQ)
theorem own_cp (X : Stand p l e R s m args below meth c T locs cells slots) (hx : p.tables.exec = Jvm.exec) (hZ : Z.Warmed39 s.vm) (hown : s.vm.findClass own = some m.cls) (hy1 : y.name = "<init>") (w1 : (Cond.methodLink own index y).before a0 Z = true) (w2 : (Cond.instanceMethod y).before a0 Z = true) (w3 : (Cond.initialized y.cls).before a0 Z = true) (w4 : (Cond.code y bytes maxL none).before a0 Z = true)
    (hy : y.cls ≠ "java/lang/invoke/MethodHandle" ∧ y.cls ≠ "java/lang/invoke/VarHandle")
    (hM : MetFree l y (head1 [Cond.code y bytes maxL none] rm) (fun a U => a = as' ∧ Z.Warmed39 U.vm ∧ U.heap = h) (fun _ _ _ _ _ => True) (fun _ U o U' => ∃ v L, o = .returned v ∧ Q v U'.heap L ∧ FrameEnd U o U' L rm.cells rm.slots))
    (hf : rm.frames + 1 ≤ R.frames) (hl : W + (maxL + 11) + rm.locals ≤ R.locals) (hc : cells + rm.cells ≤ R.cells) (hs : slots + rm.slots ≤ R.slots) (eT : T.heap = h) (hsz : Ls.size = c.maxLocals) (hlen : ∀ sig, parseMethodDescriptor y.desc = some sig → argsL.length = sig.parameters.length)
    (hst : stk = argsL.reverse ++ .ref b :: rest) (has : (.ref b :: argsL).toArray = as') (hW : (rest.map fun v => v.category).sum ≤ W) (hd : decode c.code pc = .ok (.invokespecial index, 3))
    (k : ∀ (v : Option Value) (T' : State) (L : List Loc), Stand p l e R s m args below meth c T' (locs ++ L) (cells + rm.cells) (slots + rm.slots) → Q v T'.heap L → own_Go p e below K (T'.setTop (mkF m (pc + 3) Ls (v.toList ++ rest)))) : own_Go p e below K (T.setTop (mkF m pc Ls stk)) := by
  obtain ⟨v, _, ⟨T', L', k', n'⟩, -, X', ⟨L, hQ, h1, h2, h3⟩, st⟩ := X.specialBack hx (y := y) hy1 hown (mvT hZ w1) (mvT hZ w2) (mvT hZ w4) hy (backOf (W := W) hM hZ w4 w3 hf hl) (g := mkF m pc Ls stk) rfl hsz (Steps.refl _) (a := b) (argsL := argsL) (rest := rest) hlen hst (by show 2 * 0 + _ ≤ _; simpa using hW) hd (fun _ _ => ⟨has, eT, hc, hs⟩)
  dsimp only [Pt.U, Pt.locs, Pt.cells, Pt.slots] at X' h1 h2 h3 st hQ
  subst h1 h2 h3
  exact own_via st (k v T' L X' hQ)
theorem own_cv (X : Stand p l e R s m args below meth c T locs cells slots) (hx : p.tables.exec = Jvm.exec) (hZ : Z.Warmed39 s.vm) (hown : s.vm.findClass own = some m.cls) (nf : NotFace s y) (w1 : (Cond.methodLink own index y).before a0 Z = true) (w2 : (Cond.declares y).before a0 Z = true) (w5 : (Cond.selects C y z).before a0 Z = true) (w6 : (Cond.instanceMethod z).before a0 Z = true) (w3 : (Cond.initialized z.cls).before a0 Z = true) (w4 : (Cond.code z bytes maxL ret).before a0 Z = true)
    (hy : y.cls ≠ "java/lang/invoke/MethodHandle" ∧ y.cls ≠ "java/lang/invoke/VarHandle") (E : Exa Z h b C)
    (hM : MetFree l z (head1 [Cond.code z bytes maxL ret] rm) (fun a U => a = as' ∧ Z.Warmed39 U.vm ∧ U.heap = h) (fun _ _ _ _ _ => True) (fun _ U o U' => ∃ v L, o = .returned v ∧ Q v U'.heap L ∧ FrameEnd U o U' L rm.cells rm.slots))
    (hf : rm.frames + 1 ≤ R.frames) (hl : W + (maxL + 11) + rm.locals ≤ R.locals) (hc : cells + rm.cells ≤ R.cells) (hs : slots + rm.slots ≤ R.slots) (eT : T.heap = h) (hsz : Ls.size = c.maxLocals) (hlen : ∀ sig, parseMethodDescriptor y.desc = some sig → argsL.length = sig.parameters.length)
    (hst : stk = argsL.reverse ++ .ref b :: rest) (has : (.ref b :: argsL).toArray = as') (hW : (rest.map fun v => v.category).sum ≤ W) (hd : decode c.code pc = .ok (.invokevirtual index, 3))
    (k : ∀ (v : Option Value) (T' : State) (L : List Loc), Stand p l e R s m args below meth c T' (locs ++ L) (cells + rm.cells) (slots + rm.slots) → Q v T'.heap L → own_Go p e below K (T'.setTop (mkF m (pc + 3) Ls (v.toList ++ rest)))) : own_Go p e below K (T.setTop (mkF m pc Ls stk)) := by
  obtain ⟨cq, kq, qa, qb, qc⟩ := isOf hZ eT E
  obtain ⟨v, _, ⟨T', L', k', n'⟩, -, X', ⟨L, hQ, h1, h2, h3⟩, st⟩ := X.virtualBack hx (y := y) (z := z) hown (mvT hZ w1) (mvT hZ w2) nf (mvT hZ w5) (mvT hZ w6) hy (backOf (W := W) hM hZ w4 w3 hf hl) qa qc (g := mkF m pc Ls stk) rfl hsz (Steps.refl _) (argsL := argsL) (rest := rest) hlen hst (by show 2 * 0 + _ ≤ _; simpa using hW) hd (fun _ _ => ⟨has, eT, hc, hs⟩)
  dsimp only [Pt.U, Pt.locs, Pt.cells, Pt.slots] at X' h1 h2 h3 st hQ
  subst h1 h2 h3
  exact own_via st (k v T' L X' hQ)
theorem own_cq (X : Stand p l e R s m args below meth c T locs cells slots) (hx : p.tables.exec = Jvm.exec) (hZ : Z.Warmed39 s.vm) (hown : s.vm.findClass own = some m.cls) (w1 : (Cond.methodLink own index y).before a0 Z = true) (w6 : (Cond.instanceMethod y).before a0 Z = true) (w5 : (Cond.selects y.cls y y).before a0 Z = true) (w7 : (Cond.privateMethod y).before a0 Z = true) (w3 : (Cond.initialized y.cls).before a0 Z = true) (w4 : (Cond.code y bytes maxL ret).before a0 Z = true)
    (hy : y.cls ≠ "java/lang/invoke/MethodHandle" ∧ y.cls ≠ "java/lang/invoke/VarHandle") (E : Exa Z h b C)
    (hM : MetFree l y (head1 [Cond.code y bytes maxL ret] rm) (fun a U => a = as' ∧ Z.Warmed39 U.vm ∧ U.heap = h) (fun _ _ _ _ _ => True) (fun _ U o U' => ∃ v L, o = .returned v ∧ Q v U'.heap L ∧ FrameEnd U o U' L rm.cells rm.slots))
    (hf : rm.frames + 1 ≤ R.frames) (hl : W + (maxL + 11) + rm.locals ≤ R.locals) (hc : cells + rm.cells ≤ R.cells) (hs : slots + rm.slots ≤ R.slots) (eT : T.heap = h) (hsz : Ls.size = c.maxLocals) (hlen : ∀ sig, parseMethodDescriptor y.desc = some sig → argsL.length = sig.parameters.length)
    (hst : stk = argsL.reverse ++ .ref b :: rest) (has : (.ref b :: argsL).toArray = as') (hW : (rest.map fun v => v.category).sum ≤ W) (hd : decode c.code pc = .ok (.invokevirtual index, 3))
    (k : ∀ (v : Option Value) (T' : State) (L : List Loc), Stand p l e R s m args below meth c T' (locs ++ L) (cells + rm.cells) (slots + rm.slots) → Q v T'.heap L → own_Go p e below K (T'.setTop (mkF m (pc + 3) Ls (v.toList ++ rest)))) : own_Go p e below K (T.setTop (mkF m pc Ls stk)) := by
  obtain ⟨cq, q1, q2⟩ := E.cell
  obtain ⟨v, _, ⟨T', L', k', n'⟩, -, X', ⟨L, hQ, h1, h2, h3⟩, st⟩ := X.privateBack hx (y := y) hown (mvT hZ w1) (mvT hZ w6) (mvT hZ w5) (Cond.privateMethod_at (mvP hZ w7 (args := #[]))) (mvT hZ w4) hy (backOf (W := W) hM hZ w4 w3 hf hl) (g := mkF m pc Ls stk) rfl hsz (Steps.refl _) (a := b) (by rw [eT]; exact q1) q2 (argsL := argsL) (rest := rest) hlen hst (by show 2 * 0 + _ ≤ _; simpa using hW) hd (fun _ _ => ⟨has, eT, hc, hs⟩)
  dsimp only [Pt.U, Pt.locs, Pt.cells, Pt.slots] at X' h1 h2 h3 st hQ
  subst h1 h2 h3
  exact own_via st (k v T' L X' hQ)
theorem own_cu {owner : String} (X : Stand p l e R s m args below meth c T locs cells slots) (hx : p.tables.exec = Jvm.exec) (hZ : Z.Warmed39 s.vm) (hown : s.vm.findClass own = some m.cls) (w1 : (Cond.methodLink own index y).before a0 Z = true) (w8 : (Cond.sameMethod y.cls owner y.name y.desc).before a0 Z = true) (w2 : (Cond.declares ⟨owner, y.name, y.desc⟩).before a0 Z = true) (w5 : (Cond.selects C y z).before a0 Z = true) (w6 : (Cond.instanceMethod z).before a0 Z = true) (w3 : (Cond.initialized z.cls).before a0 Z = true) (w4 : (Cond.code z bytes maxL ret).before a0 Z = true)
    (hy : owner ≠ "java/lang/invoke/MethodHandle" ∧ owner ≠ "java/lang/invoke/VarHandle") (E : Exa Z h b C)
    (hM : MetFree l z (head1 [Cond.code z bytes maxL ret] rm) (fun a U => a = as' ∧ Z.Warmed39 U.vm ∧ U.heap = h) (fun _ _ _ _ _ => True) (fun _ U o U' => ∃ v L, o = .returned v ∧ Q v U'.heap L ∧ FrameEnd U o U' L rm.cells rm.slots))
    (hf : rm.frames + 1 ≤ R.frames) (hl : W + (maxL + 11) + rm.locals ≤ R.locals) (hc : cells + rm.cells ≤ R.cells) (hs : slots + rm.slots ≤ R.slots) (eT : T.heap = h) (hsz : Ls.size = c.maxLocals) (hlen : ∀ sig, parseMethodDescriptor y.desc = some sig → argsL.length = sig.parameters.length)
    (hst : stk = argsL.reverse ++ .ref b :: rest) (has : (.ref b :: argsL).toArray = as') (hW : (rest.map fun v => v.category).sum ≤ W) (hd : decode c.code pc = .ok (.invokevirtual index, 3))
    (k : ∀ (v : Option Value) (T' : State) (L : List Loc), Stand p l e R s m args below meth c T' (locs ++ L) (cells + rm.cells) (slots + rm.slots) → Q v T'.heap L → own_Go p e below K (T'.setTop (mkF m (pc + 3) Ls (v.toList ++ rest)))) : own_Go p e below K (T.setTop (mkF m pc Ls stk)) := by
  obtain ⟨cq, kq, qa, qb, qc⟩ := isOf hZ eT E
  obtain ⟨v, _, ⟨T', L', k', n'⟩, -, X', ⟨L, hQ, h1, h2, h3⟩, st⟩ := X.virtualBackUp hx (x := y) (y := z) (owner := owner) hown (mvT hZ w1) (mvT hZ w8) (mvT hZ w2) hy (mvT hZ w5) (mvT hZ w6) (backOf (W := W) hM hZ w4 w3 hf hl) qa qc (g := mkF m pc Ls stk) rfl hsz (Steps.refl _) (argsL := argsL) (rest := rest) hlen hst (by show 2 * 0 + _ ≤ _; simpa using hW) hd (fun _ _ => ⟨has, eT, hc, hs⟩)
  dsimp only [Pt.U, Pt.locs, Pt.cells, Pt.slots] at X' h1 h2 h3 st hQ
  subst h1 h2 h3
  exact own_via st (k v T' L X' hQ)
end Calls
theorem own_fld_eq {Z : State} {h : Heap} {a : Addr} {C n d : String} {v w : Value} (F : Fld Z h a C n d v) (G : Fld Z h a C n d w) : v = w := Classical.byContradiction fun q => Fld.ne F G q rfl
theorem own_nsroot {Z : State} {a0 : Array Value} {O K : String} {n : Nat} (w : (Cond.noSuperclass O).before a0 Z = true) (wk : (Cond.instantiable K n).before a0 Z = true) (hn : O ≠ K) : NS Z O K := by
  obtain ⟨c, k, h1, h2, h3, -, -⟩ := Cond.noSuperclass_spec w
  obtain ⟨t, kt, g1, -⟩ := Cond.instantiable_spec wk
  have ne := ids_ne h1 g1 hn
  refine ⟨c, t, h1, g1, fun fuel => ?_⟩
  cases fuel with
  | zero => rfl
  | succ f => simp [Vm.isSubclassAux, ne, h2, h3]
theorem own_nsno {Z : State} {a0 : Array Value} {C S K : String} {n : Nat} (w : (Cond.superclass C S).before a0 Z = true) (wk : (Cond.instantiable K n).before a0 Z = true) (nn : NS Z C K) (hn : C ≠ K) : ∃ c t, Z.vm.findClass C = some c ∧ Z.vm.findClass K = some t ∧ Z.vm.assignable c t = false := by
  obtain ⟨c, t, h0, g0, n3⟩ := nn
  obtain ⟨p, k, kp, h1, h2, h3, h4, h5, -, h7⟩ := Cond.superclass_spec h0 w
  obtain ⟨t', kt, g1, g2, g5, g6, -⟩ := Cond.instantiable_spec wk
  cases g0.symm.trans g1
  have g7 : kt.isInterface = false := by simp only [Bool.or_eq_false_iff] at g6; exact g6.1
  have ne := ids_ne h0 g0 hn
  refine ⟨c, t, h0, g0, ?_⟩
  show Z.vm.assignableAux (255 + 1) c t = false
  simp [Vm.assignableAux, ne, h2, g2, h5, g5, g7, Vm.isSubclass, n3]
theorem own_arv_ne {Z : State} {h : Heap} {a b : Addr} {k1 k2 : ClassId} {t1 t2 : FieldType} {z1 z2 : Int32} {v1 v2 : List Value} {d1 d2 : Value} (A : Arv Z h a k1 t1 z1 v1 d1) (B : Arv Z h b k2 t2 z2 v2 d2) (q : ¬ z1 = z2) : a ≠ b := by
  refine arv_ne A B (Or.inl fun e => q ?_)
  obtain ⟨_, -, -, -, n1, -⟩ := A
  obtain ⟨_, -, -, -, n2, -⟩ := B
  simp only [Int32.lt_iff_toInt_lt, Int32.reduceToInt, Int32.toNatClampNeg] at n1 n2 e
  apply Int32.toInt_inj.mp
  omega
theorem own_ns_exa {Z : State} {h : Heap} {a : Addr} {C : String} (F : Exa Z h a C) : ∀ cell : Cell, h[a]? = some cell → cell.vm.isStatics = false := fun cell hc => by
  obtain ⟨c, _, h1, -, -, h4, -⟩ := F; cases h1.symm.trans hc; exact h4
theorem own_ns_arv {Z : State} {h : Heap} {a : Addr} {k : ClassId} {ty : FieldType} {z : Int32} {vs : List Value} {dv : Value} (F : Arv Z h a k ty z vs dv) : ∀ cell : Cell, h[a]? = some cell → cell.vm.isStatics = false := fun cell hc => by
  obtain ⟨c, A, -⟩ := F; cases A.1.symm.trans hc; exact A.plain
theorem own_sta_keep {Z : State} {h h' : Heap} {C f d : String} {v : Value} {ws : List Addr} (F : Sta Z h C f d v) (K : Keep h h' ws) (q : ∀ x ∈ ws, ∀ cell : Cell, h[x]? = some cell → cell.vm.isStatics = false) : Sta Z h' C f d v := by
  obtain ⟨cf, i, k, fl, st, cell, h1, h2, h3, h4, h5, h6, h7⟩ := F
  exact ⟨cf, i, k, fl, st, cell, h1, h2, h3, h4, K.2.1 _ _ h5 (fun hm => by rw [q _ hm _ h5] at h6; cases h6), h6, h7⟩
section Wide
variable {vm0 : Vm} {Z : State} {a0 : Array Value} {EL : List (String × Nat)} {h h0 : Heap}
def own_KW (Z : State) (EL : List (String × Nat)) (s : State) (Q : Option Value → Heap → List Loc → Prop) (k n : Nat) (t : State) (o : Outcome) : Prop := ∃ v L, o = .returned v ∧ Q v t.heap L ∧ CHr Z EL s.vm s.heap t.vm t.heap ∧ ReturnedEndW s o t L k n
theorem own_endW (X : Stand p l e R (s.setVm vm0) m args below meth c T locs cells slots) {v : Option Value} (hlk : meth.locks = false) (hv : meth.sig.returnType = none → v = none) {k0 : Nat} (hS : s.Since vm0 k0) (hk0 : k0 ≤ h.size) (hZ : Z.Warmed39 vm0) (hEL : EW Z a0 EL) (hh : s.heap = h0) (eT : T.heap = h) (A : CHr Z EL s.vm h0 vm0 h) (hk : cells ≤ k) (hn : slots ≤ n) (hQ : Q v T.heap locs) {S : State}
    (st : ∀ fs, (∀ (f : JFrame) (acts : List Action), f.method = m → f.locked = none → f.entered = [] → (doReturn e (T.setTop f) acts v).1 = T.setFrames fs) → Steps p.tables e below S (T.setFrames fs)) : own_Go p e below (own_KW Z EL s Q k n) S := by
  subst hh eT
  obtain ⟨fs, hr, hrun, hended, hW⟩ := X.leaveW hS hk0 hv hlk
  exact ⟨_, _, st fs hr, hrun, hended, v, locs, rfl, hQ, (show CHr Z EL s.vm s.heap T.vm T.heap from A.trans (CHv.at X hZ hEL A.1)), hW.1, hW.2.1, hW.2.2.1, hW.2.2.2.mono hk hn⟩
theorem own_ret0W (X : Stand p l e R (s.setVm vm0) m args below meth c T locs cells slots) (hx : p.tables.exec = Jvm.exec) (hlk : meth.locks = false) (hret : meth.sig.returnType = none) {k0 : Nat} (hS : s.Since vm0 k0) (hk0 : k0 ≤ h.size) (hZ : Z.Warmed39 vm0) (hEL : EW Z a0 EL) (hh : s.heap = h0) (eT : T.heap = h) (A : CHr Z EL s.vm h0 vm0 h) {pc : Nat} {Ls : Array Slot} (hd : decode c.code pc = .ok (.return_, 1)) (hk : cells ≤ k) (hn : slots ≤ n) (hQ : Q none T.heap locs) :
    own_Go p e below (own_KW Z EL s Q k n) (T.setTop (mkF m pc Ls [])) := own_endW X hlk (fun _ => rfl) hS hk0 hZ hEL hh eT A hk hn hQ fun _ hr => X.returnOut hx hret hd hr
theorem own_retNW (X : Stand p l e R (s.setVm vm0) m args below meth c T locs cells slots) (hx : p.tables.exec = Jvm.exec) {t : FieldType} (hlk : meth.locks = false) (hret : meth.sig.returnType = some t) {k0 : Nat} (hS : s.Since vm0 k0) (hk0 : k0 ≤ h.size) (hZ : Z.Warmed39 vm0) (hEL : EW Z a0 EL) (hh : s.heap = h0) (eT : T.heap = h) (A : CHr Z EL s.vm h0 vm0 h) (ht : t = .boolean ∨ t = .byte ∨ t = .char ∨ t = .short) {pc : Nat} {Ls : Array Slot} {z : Int32} {rest : List Value} (hd : decode c.code pc = .ok (.ireturn, 1)) (hk : cells ≤ k) (hn : slots ≤ n) (hQ : Q (some (.int (nar t z))) T.heap locs) :
    own_Go p e below (own_KW Z EL s Q k n) (T.setTop (mkF m pc Ls (.int z :: rest))) := own_endW X hlk (fun h => by rw [hret] at h; cases h) hS hk0 hZ hEL hh eT A hk hn hQ fun _ hr => retN X hx hret ht hd hr
theorem own_retIW (X : Stand p l e R (s.setVm vm0) m args below meth c T locs cells slots) (hx : p.tables.exec = Jvm.exec) (hlk : meth.locks = false) (hret : meth.sig.returnType = some .int) {k0 : Nat} (hS : s.Since vm0 k0) (hk0 : k0 ≤ h.size) (hZ : Z.Warmed39 vm0) (hEL : EW Z a0 EL) (hh : s.heap = h0) (eT : T.heap = h) (A : CHr Z EL s.vm h0 vm0 h) {pc : Nat} {Ls : Array Slot} {z : Int32} {rest : List Value} (hd : decode c.code pc = .ok (.ireturn, 1)) (hk : cells ≤ k) (hn : slots ≤ n) (hQ : Q (some (.int z)) T.heap locs) :
    own_Go p e below (own_KW Z EL s Q k n) (T.setTop (mkF m pc Ls (.int z :: rest))) := own_endW X hlk (fun h => by rw [hret] at h; cases h) hS hk0 hZ hEL hh eT A hk hn hQ fun _ hr => retOut X hx hret rfl (Or.inl ⟨rfl, Or.inl rfl, z, rfl⟩) hd hr
theorem own_retJW (X : Stand p l e R (s.setVm vm0) m args below meth c T locs cells slots) (hx : p.tables.exec = Jvm.exec) (hlk : meth.locks = false) (hret : meth.sig.returnType = some .long) {k0 : Nat} (hS : s.Since vm0 k0) (hk0 : k0 ≤ h.size) (hZ : Z.Warmed39 vm0) (hEL : EW Z a0 EL) (hh : s.heap = h0) (eT : T.heap = h) (A : CHr Z EL s.vm h0 vm0 h) {pc : Nat} {Ls : Array Slot} {z : Int64} {rest : List Value} (hd : decode c.code pc = .ok (.lreturn, 1)) (hk : cells ≤ k) (hn : slots ≤ n) (hQ : Q (some (.long z)) T.heap locs) :
    own_Go p e below (own_KW Z EL s Q k n) (T.setTop (mkF m pc Ls (.long z :: rest))) := own_endW X hlk (fun h => by rw [hret] at h; cases h) hS hk0 hZ hEL hh eT A hk hn hQ fun _ hr => retOut X hx hret rfl (Or.inr (Or.inl ⟨rfl, rfl, z, rfl⟩)) hd hr
theorem own_retRW (X : Stand p l e R (s.setVm vm0) m args below meth c T locs cells slots) (hx : p.tables.exec = Jvm.exec) {t : FieldType} (hlk : meth.locks = false) (hret : meth.sig.returnType = some t) {k0 : Nat} (hS : s.Since vm0 k0) (hk0 : k0 ≤ h.size) (hZ : Z.Warmed39 vm0) (hEL : EW Z a0 EL) (hh : s.heap = h0) (eT : T.heap = h) (A : CHr Z EL s.vm h0 vm0 h) (ht : t.isReference = true) {pc : Nat} {Ls : Array Slot} {w : Value} {rest : List Value} (hw : w.isRef = true) (hd : decode c.code pc = .ok (.areturn, 1)) (hk : cells ≤ k) (hn : slots ≤ n) (hQ : Q (some w) T.heap locs) :
    own_Go p e below (own_KW Z EL s Q k n) (T.setTop (mkF m pc Ls (w :: rest))) := own_endW X hlk (fun h => by rw [hret] at h; cases h) hS hk0 hZ hEL hh eT A hk hn hQ fun _ hr => retOut X hx hret (by cases t <;> first | rfl | cases ht) (Or.inr (Or.inr (Or.inr (Or.inr ⟨rfl, ht, hw⟩)))) hd hr
variable {own : String} {index : Nat} {y z : MethodName} {bytes : ByteArray} {maxL : Nat} {ret : Option FieldType} {rm : Room} {W : Nat} {as' : Array Value} {K : State → Outcome → Prop} {pc : Nat} {Ls : Array Slot} {argsL rest stk : List Value} {C : String} {b : Addr}
theorem own_csW (X : Stand p l e R (s.setVm vm0) m args below meth c T locs cells slots) (hx : p.tables.exec = Jvm.exec) (hZ : Z.Warmed39 vm0) (hown : vm0.findClass own = some m.cls) (w1 : (Cond.methodLink own index y).before a0 Z = true) (w2 : (Cond.static y).before a0 Z = true) (w3 : (Cond.initialized y.cls).before a0 Z = true) (w4 : (Cond.code y bytes maxL ret).before a0 Z = true)
    (hy : y.cls ≠ "java/lang/invoke/MethodHandle" ∧ y.cls ≠ "java/lang/invoke/VarHandle")
    (hM : MetFree l y (head1 [Cond.code y bytes maxL ret] rm) (fun a U => a = as' ∧ Z.Warmed39 U.vm ∧ U.heap = h ∧ CHv Z EL U.vm h) (fun _ _ _ _ _ => True) (fun _ U o U' => ∃ v L, o = .returned v ∧ Q v U'.heap L ∧ CHr Z EL U.vm U.heap U'.vm U'.heap ∧ ReturnedEndW U o U' L rm.cells rm.slots))
    (hf : rm.frames + 1 ≤ R.frames) (hl : W + (maxL + 11) + rm.locals ≤ R.locals) (hc : cells + rm.cells ≤ R.cells) (hs : slots + rm.slots ≤ R.slots) (eT : T.heap = h) (hEL : EW Z a0 EL) (H : CHv Z EL vm0 h) {k0 : Nat} (hS : s.Since vm0 k0) (hk : k0 ≤ h.size) (hsz : Ls.size = c.maxLocals) (hlen : ∀ sig, parseMethodDescriptor y.desc = some sig → argsL.length = sig.parameters.length)
    (hst : stk = argsL.reverse ++ rest) (has : argsL.toArray = as') (hW : (rest.map fun v => v.category).sum ≤ W) (hd : decode c.code pc = .ok (.invokestatic index, 3))
    (k : ∀ (v : Option Value) (T' : State) (L : List Loc), Stand p l e R (s.setVm T'.vm) m args below meth c T' (locs ++ L) (cells + rm.cells) (slots + rm.slots) → Q v T'.heap L → CHr Z EL vm0 h T'.vm T'.heap → s.Since T'.vm T'.heap.size → Z.Warmed39 T'.vm → T'.vm.findClass own = some m.cls → own_Go p e below K (T'.setTop (mkF m (pc + 3) Ls (v.toList ++ rest)))) : own_Go p e below K (T.setTop (mkF m pc Ls stk)) := by
  obtain ⟨v, _, ⟨T', L', k', n'⟩, -, X', hS', hg, ⟨L, hQ, h1, h2, h3, hA⟩, st⟩ := callSS X hx (y := y) hown (mvT (s := s.setVm vm0) hZ w1) (mvT (s := s.setVm vm0) hZ w2) (mvT (s := s.setVm vm0) hZ w3) (mvT (s := s.setVm vm0) hZ w4) hy (backOfSH (W := W) hM hZ w4 w3 hf hl hEL H) (g := mkF m pc Ls stk) rfl hsz (argsL := argsL) (rest := rest) hlen hst (by show 2 * 0 + _ ≤ _; simpa using hW) hd (fun _ _ => ⟨has, eT, hc, hs⟩)
  dsimp only [Pt.U, Pt.locs, Pt.cells, Pt.slots] at X' h1 h2 h3 st hQ hS' hg hA
  subst h1 h2 h3
  subst eT
  exact own_via st (k v T' L X' hQ hA (foldS hS hk hS' hg) (State.Warmed39.trans (t := s.setVm vm0) hZ hS'.1) (by rw [hS'.1.alike.findClass]; exact hown))
theorem own_cpW (X : Stand p l e R (s.setVm vm0) m args below meth c T locs cells slots) (hx : p.tables.exec = Jvm.exec) (hZ : Z.Warmed39 vm0) (hown : vm0.findClass own = some m.cls) (hy1 : y.name = "<init>") (w1 : (Cond.methodLink own index y).before a0 Z = true) (w2 : (Cond.instanceMethod y).before a0 Z = true) (w3 : (Cond.initialized y.cls).before a0 Z = true) (w4 : (Cond.code y bytes maxL none).before a0 Z = true)
    (hy : y.cls ≠ "java/lang/invoke/MethodHandle" ∧ y.cls ≠ "java/lang/invoke/VarHandle")
    (hM : MetFree l y (head1 [Cond.code y bytes maxL none] rm) (fun a U => a = as' ∧ Z.Warmed39 U.vm ∧ U.heap = h ∧ CHv Z EL U.vm h) (fun _ _ _ _ _ => True) (fun _ U o U' => ∃ v L, o = .returned v ∧ Q v U'.heap L ∧ CHr Z EL U.vm U.heap U'.vm U'.heap ∧ ReturnedEndW U o U' L rm.cells rm.slots))
    (hf : rm.frames + 1 ≤ R.frames) (hl : W + (maxL + 11) + rm.locals ≤ R.locals) (hc : cells + rm.cells ≤ R.cells) (hs : slots + rm.slots ≤ R.slots) (eT : T.heap = h) (hEL : EW Z a0 EL) (H : CHv Z EL vm0 h) {k0 : Nat} (hS : s.Since vm0 k0) (hk : k0 ≤ h.size) (hsz : Ls.size = c.maxLocals) (hlen : ∀ sig, parseMethodDescriptor y.desc = some sig → argsL.length = sig.parameters.length)
    (hst : stk = argsL.reverse ++ .ref b :: rest) (has : (.ref b :: argsL).toArray = as') (hW : (rest.map fun v => v.category).sum ≤ W) (hd : decode c.code pc = .ok (.invokespecial index, 3))
    (k : ∀ (v : Option Value) (T' : State) (L : List Loc), Stand p l e R (s.setVm T'.vm) m args below meth c T' (locs ++ L) (cells + rm.cells) (slots + rm.slots) → Q v T'.heap L → CHr Z EL vm0 h T'.vm T'.heap → s.Since T'.vm T'.heap.size → Z.Warmed39 T'.vm → T'.vm.findClass own = some m.cls → own_Go p e below K (T'.setTop (mkF m (pc + 3) Ls (v.toList ++ rest)))) : own_Go p e below K (T.setTop (mkF m pc Ls stk)) := by
  obtain ⟨v, _, ⟨T', L', k', n'⟩, -, X', hS', hg, ⟨L, hQ, h1, h2, h3, hA⟩, st⟩ := X.specialBackS hx (y := y) hy1 hown (mvT (s := s.setVm vm0) hZ w1) (mvT (s := s.setVm vm0) hZ w2) (mvT (s := s.setVm vm0) hZ w4) hy (backOfSH (W := W) hM hZ w4 w3 hf hl hEL H) (g := mkF m pc Ls stk) rfl hsz (Steps.refl _) (a := b) (argsL := argsL) (rest := rest) hlen hst (by show 2 * 0 + _ ≤ _; simpa using hW) hd (fun _ _ => ⟨has, eT, hc, hs⟩)
  dsimp only [Pt.U, Pt.locs, Pt.cells, Pt.slots] at X' h1 h2 h3 st hQ hS' hg hA
  subst h1 h2 h3
  subst eT
  exact own_via st (k v T' L X' hQ hA (foldS hS hk hS' hg) (State.Warmed39.trans (t := s.setVm vm0) hZ hS'.1) (by rw [hS'.1.alike.findClass]; exact hown))
theorem own_cvW (X : Stand p l e R (s.setVm vm0) m args below meth c T locs cells slots) (hx : p.tables.exec = Jvm.exec) (hZ : Z.Warmed39 vm0) (hown : vm0.findClass own = some m.cls) (nf : NotFace (s.setVm vm0) y) (w1 : (Cond.methodLink own index y).before a0 Z = true) (w2 : (Cond.declares y).before a0 Z = true) (w5 : (Cond.selects C y z).before a0 Z = true) (w6 : (Cond.instanceMethod z).before a0 Z = true) (w3 : (Cond.initialized z.cls).before a0 Z = true) (w4 : (Cond.code z bytes maxL ret).before a0 Z = true)
    (hy : y.cls ≠ "java/lang/invoke/MethodHandle" ∧ y.cls ≠ "java/lang/invoke/VarHandle") (E : Exa Z h b C)
    (hM : MetFree l z (head1 [Cond.code z bytes maxL ret] rm) (fun a U => a = as' ∧ Z.Warmed39 U.vm ∧ U.heap = h ∧ CHv Z EL U.vm h) (fun _ _ _ _ _ => True) (fun _ U o U' => ∃ v L, o = .returned v ∧ Q v U'.heap L ∧ CHr Z EL U.vm U.heap U'.vm U'.heap ∧ ReturnedEndW U o U' L rm.cells rm.slots))
    (hf : rm.frames + 1 ≤ R.frames) (hl : W + (maxL + 11) + rm.locals ≤ R.locals) (hc : cells + rm.cells ≤ R.cells) (hs : slots + rm.slots ≤ R.slots) (eT : T.heap = h) (hEL : EW Z a0 EL) (H : CHv Z EL vm0 h) {k0 : Nat} (hS : s.Since vm0 k0) (hk : k0 ≤ h.size) (hsz : Ls.size = c.maxLocals) (hlen : ∀ sig, parseMethodDescriptor y.desc = some sig → argsL.length = sig.parameters.length)
    (hst : stk = argsL.reverse ++ .ref b :: rest) (has : (.ref b :: argsL).toArray = as') (hW : (rest.map fun v => v.category).sum ≤ W) (hd : decode c.code pc = .ok (.invokevirtual index, 3))
    (k : ∀ (v : Option Value) (T' : State) (L : List Loc), Stand p l e R (s.setVm T'.vm) m args below meth c T' (locs ++ L) (cells + rm.cells) (slots + rm.slots) → Q v T'.heap L → CHr Z EL vm0 h T'.vm T'.heap → s.Since T'.vm T'.heap.size → Z.Warmed39 T'.vm → T'.vm.findClass own = some m.cls → own_Go p e below K (T'.setTop (mkF m (pc + 3) Ls (v.toList ++ rest)))) : own_Go p e below K (T.setTop (mkF m pc Ls stk)) := by
  obtain ⟨cq, kq, qa, qb, qc⟩ := isOf (s := s.setVm vm0) hZ eT E
  obtain ⟨v, _, ⟨T', L', k', n'⟩, -, X', hS', hg, ⟨L, hQ, h1, h2, h3, hA⟩, st⟩ := X.virtualBackS hx (y := y) (z := z) hown (mvT (s := s.setVm vm0) hZ w1) (mvT (s := s.setVm vm0) hZ w2) nf (mvT (s := s.setVm vm0) hZ w5) (mvT (s := s.setVm vm0) hZ w6) hy (backOfSH (W := W) hM hZ w4 w3 hf hl hEL H) qa qc (g := mkF m pc Ls stk) rfl hsz (Steps.refl _) (argsL := argsL) (rest := rest) hlen hst (by show 2 * 0 + _ ≤ _; simpa using hW) hd (fun _ _ => ⟨has, eT, hc, hs⟩)
  dsimp only [Pt.U, Pt.locs, Pt.cells, Pt.slots] at X' h1 h2 h3 st hQ hS' hg hA
  subst h1 h2 h3
  subst eT
  exact own_via st (k v T' L X' hQ hA (foldS hS hk hS' hg) (State.Warmed39.trans (t := s.setVm vm0) hZ hS'.1) (by rw [hS'.1.alike.findClass]; exact hown))
/-- a String whose array isn't laid yet is nobody's constant -/
theorem own_safe_null {vm : Vm} {a : Addr} (hal : Z.vm.Alike vm) (E : Exa Z h a "java/lang/String") (F : Fld Z h a "java/lang/String" "value" "[B" .null) : Safe Z EL vm h a := fun B => by
  obtain ⟨p, -, u, a', -, q, rfl, G, r⟩ := B
  obtain ⟨cS, ⟨⟨s1, -, -, ⟨cv, kv, iv, s4, -⟩, -, -, -, s8, -⟩, -⟩, -, hB, -⟩ := id G
  have hd := G.hd
  rcases r with rfl | rfl
  · obtain ⟨cell, cf, k, i, f, h1, h2, -, -, -, -, h7⟩ := F
    cases h1.symm.trans s1
    obtain ⟨k', e3, -⟩ := State.fieldFound?_setVm (s := Z) hal h2
    have e4 := (show (Wst Z vm h).fieldFound? _ _ _ = _ from e3).symm.trans s4
    simp only [Option.some.injEq, Prod.mk.injEq] at e4
    rw [e4.2.2.2, s8] at h7
    cases h7
  · obtain ⟨cell, k, h1, h2, -⟩ := E
    cases h1.symm.trans hd
    have h3 : vm.findClass "[B" = some q.SA.cls := hB
    rw [hal.findClass] at h3
    obtain ⟨k1, a1, a2⟩ := Vm.findClass_spec h2
    obtain ⟨k2, b1, b2⟩ := Vm.findClass_spec h3
    cases a1.symm.trans b1
    exact absurd (a2.symm.trans b2) (by decide)
end Wide
end Own
end Jvm.RoadKit
namespace Jvm.Pilot.@@N@@
open Jvm Jvm.ClassFile Sem Op Lib Jvm.Free Jvm.Stand Jvm.LawKit Jvm.RoadKit Bundle Jvm.Pilot.@@N@@.Jvm.D
theorem own_m (i : Nat) {d : Jvm.Cond} (h : tables_1[i]? = some d) : d ∈ tables_1 := List.mem_of_getElem? h
theorem own_eq_int {args : Array Value} {s first : State} {o : Option Outcome} {idx : List Nat} {t : Term} {k : Int32} (h : (Cond.eq t (.int k)).value args first o s idx = some true) : t.eval args first o idx s = some (.int k) := by
  obtain ⟨x, y, h1, h2, h3, h4⟩ := cmp_v (r := true) (Or.inl h)
  have e2 : y = .int k := (Option.some.inj h2).symm
  subst e2
  obtain ⟨z, rfl⟩ := h4
  have q := h
  simp only [Cond.value, h1, h2] at q
  have : z = k := by simpa using q
  rw [h1, this]
theorem own_eq_ref {args : Array Value} {s first : State} {o : Option Outcome} {idx : List Nat} {t u : Term} {a : Addr} (hu : u.eval args first o idx s = some (.ref a)) (h : (Cond.eq t u).value args first o s idx = some true) : t.eval args first o idx s = some (.ref a) := by
  obtain ⟨x, y, h1, h2, h3, h4⟩ := cmp_v (r := true) (Or.inl h)
  cases hu.symm.trans h2
  have q := h
  simp only [Cond.value, h1, h2] at q
  cases x <;> simp [Kin, Value.isRef] at h3 h4 q ⊢
  rw [h1, q]
def own_EL : List (String × Nat) := [("java/lang/String", 7)]
theorem own_ew {Z : State} {a0 : Array Value} (hw : ∀ d ∈ tables_1, d.before a0 Z = true) : EW Z a0 own_EL := (EW.cons (hw _ (own_m 18 rfl)) (by decide) EW.nil)
theorem own_ws {Z : State} {a0 : Array Value} (hw : ∀ d ∈ tables_1, d.before a0 Z = true) : ∀ a ∈ Bundle.stringAtoms, a.before a0 Z = true := fun d hd => by
  simp only [Bundle.stringAtoms, List.mem_cons, List.not_mem_nil, or_false] at hd
  rcases hd with rfl | rfl | rfl | rfl | rfl | rfl | rfl
  · exact hw _ (own_m 6 rfl)
  · exact hw _ (own_m 5 rfl)
  · exact hw _ (own_m 19 rfl)
  · exact hw _ (own_m 20 rfl)
  · exact hw _ (own_m 21 rfl)
  · exact hw _ (own_m 22 rfl)
  · exact hw _ (own_m 23 rfl)
theorem own_d_method_2_code_0 : decode method_2_code 0 = .ok (.iload_n 0, 1) := by decide +kernel
theorem own_d_method_2_code_1 : decode method_2_code 1 = .ok (.sipush 255, 3) := by decide +kernel
theorem own_d_method_2_code_4 : decode method_2_code 4 = .ok (.iand, 1) := by decide +kernel
theorem own_d_method_2_code_5 : decode method_2_code 5 = .ok (.i2c, 1) := by decide +kernel
theorem own_d_method_2_code_6 : decode method_2_code 6 = .ok (.istore_n 2, 1) := by decide +kernel
theorem own_d_method_2_code_7 : decode method_2_code 7 = .ok (.iload_n 0, 1) := by decide +kernel
theorem own_d_method_2_code_8 : decode method_2_code 8 = .ok (.bipush 8, 2) := by decide +kernel
theorem own_d_method_2_code_10 : decode method_2_code 10 = .ok (.iushr, 1) := by decide +kernel
theorem own_d_method_2_code_11 : decode method_2_code 11 = .ok (.sipush 255, 3) := by decide +kernel
theorem own_d_method_2_code_14 : decode method_2_code 14 = .ok (.iand, 1) := by decide +kernel
theorem own_d_method_2_code_15 : decode method_2_code 15 = .ok (.i2c, 1) := by decide +kernel
theorem own_d_method_2_code_16 : decode method_2_code 16 = .ok (.istore_n 3, 1) := by decide +kernel
theorem own_d_method_2_code_17 : decode method_2_code 17 = .ok (.iload_n 1, 1) := by decide +kernel
theorem own_d_method_2_code_18 : decode method_2_code 18 = .ok (.ifCond .ne 14, 3) := by decide +kernel
theorem own_d_method_2_code_21 : decode method_2_code 21 = .ok (.new 7, 3) := by decide +kernel
theorem own_d_method_2_code_24 : decode method_2_code 24 = .ok (.dup, 1) := by decide +kernel
theorem own_d_method_2_code_25 : decode method_2_code 25 = .ok (.iconst 0, 1) := by decide +kernel
theorem own_d_method_2_code_26 : decode method_2_code 26 = .ok (.newarray .char, 2) := by decide +kernel
theorem own_d_method_2_code_28 : decode method_2_code 28 = .ok (.invokespecial 9, 3) := by decide +kernel
theorem own_d_jdk_42_method_3_code_0 : decode jdk_42_method_3_code 0 = .ok (.aload_n 0, 1) := by decide +kernel
theorem own_d_jdk_42_method_3_code_1 : decode jdk_42_method_3_code 1 = .ok (.aload_n 1, 1) := by decide +kernel
theorem own_d_jdk_42_method_3_code_2 : decode jdk_42_method_3_code 2 = .ok (.iconst 0, 1) := by decide +kernel
theorem own_d_jdk_42_method_3_code_3 : decode jdk_42_method_3_code 3 = .ok (.aload_n 1, 1) := by decide +kernel
theorem own_d_jdk_42_method_3_code_4 : decode jdk_42_method_3_code 4 = .ok (.arraylength, 1) := by decide +kernel
theorem own_d_jdk_42_method_3_code_5 : decode jdk_42_method_3_code 5 = .ok (.aconst_null, 1) := by decide +kernel
theorem own_d_jdk_42_method_3_code_6 : decode jdk_42_method_3_code 6 = .ok (.invokespecial 27, 3) := by decide +kernel
theorem own_d_jdk_42_method_149_code_0 : decode jdk_42_method_149_code 0 = .ok (.aload_n 0, 1) := by decide +kernel
theorem own_d_jdk_42_method_149_code_1 : decode jdk_42_method_149_code 1 = .ok (.invokespecial 1, 3) := by decide +kernel
theorem own_d_jdk_42_method_149_code_4 : decode jdk_42_method_149_code 4 = .ok (.iload_n 3, 1) := by decide +kernel
theorem own_d_jdk_42_method_149_code_5 : decode jdk_42_method_149_code 5 = .ok (.ifCond .ne 22, 3) := by decide +kernel
theorem own_d_jdk_42_method_149_code_8 : decode jdk_42_method_149_code 8 = .ok (.aload_n 0, 1) := by decide +kernel
theorem own_d_jdk_42_method_149_code_9 : decode jdk_42_method_149_code 9 = .ok (.ldc 7, 2) := by decide +kernel
theorem own_d_jdk_42_method_149_code_11 : decode jdk_42_method_149_code 11 = .ok (.getfield 9, 3) := by decide +kernel
theorem own_d_jdk_42_method_149_code_14 : decode jdk_42_method_149_code 14 = .ok (.putfield 9, 3) := by decide +kernel
theorem own_d_jdk_42_method_149_code_17 : decode jdk_42_method_149_code 17 = .ok (.aload_n 0, 1) := by decide +kernel
theorem own_d_jdk_42_method_149_code_18 : decode jdk_42_method_149_code 18 = .ok (.ldc 7, 2) := by decide +kernel
theorem own_d_jdk_42_method_149_code_20 : decode jdk_42_method_149_code 20 = .ok (.getfield 15, 3) := by decide +kernel
theorem own_d_jdk_42_method_149_code_23 : decode jdk_42_method_149_code 23 = .ok (.putfield 15, 3) := by decide +kernel
theorem own_d_jdk_42_method_149_code_26 : decode jdk_42_method_149_code 26 = .ok (.return_, 1) := by decide +kernel
theorem own_pn_java_lang_String : plainName "java/lang/String" = true := by first | (simp [plainName, overriddenIn]; done) | decide +kernel
def Q_init_0 (Z : State) (o0 : Addr) (h0 : Heap) (n0 : Nat) (v : Option Value) (h : Heap) (L : List Loc) : Prop := (∃ (b2 : Addr) (k2 : ClassId), v = none ∧ Fr n0 L ∧ Keep h0 h [o0] ∧ Fld Z h o0 "java/lang/String" "coder" "B" (.int (0 : Int32)) ∧ Fld Z h o0 "java/lang/String" "value" "[B" (.ref b2) ∧ Arv Z h b2 k2 .byte (0 : Int32) [] (.int (0 : Int32)))
set_option maxRecDepth 65536 in
set_option maxHeartbeats 40000000 in
theorem rm_init_0 (l : Launch) (Z : State) (a0 : Array Value) (hw : ∀ d ∈ tables_1, d.before a0 Z = true) (ws : List Jvm.Cond) (o0 : Addr) (o1 : Addr) (h0 : Heap) (n0 : Nat) (Z0 : n0 ≤ h0.size) (P0 : Exa Z h0 o0 "java/lang/String") (P1 : Fld Z h0 o0 "java/lang/String" "value" "[B" .null) (P2 : Fld Z h0 o0 "java/lang/String" "coder" "B" (.int (0 : Int32))) (ge0p : n0 ≤ o0) :
    MetFree l (⟨"java/lang/String", "<init>", "([CIILjava/lang/Void;)V"⟩ : MethodName) (head1 (Jvm.Cond.code (⟨"java/lang/String", "<init>", "([CIILjava/lang/Void;)V"⟩ : MethodName) jdk_42_method_149_code 6 none :: ws) ({ frames := 1, cells := 4, slots := 8, locals := 12 } : Room)) (fun aA U => aA = #[(.ref o0), (.ref o1), (.int (0 : Int32)), (.int (0 : Int32)), .null] ∧ Z.Warmed39 U.vm ∧ U.heap = h0 ∧ CHv Z own_EL U.vm h0) (fun _ _ _ _ _ => True) (fun _ U o U' => ∃ v L, o = .returned v ∧ Q_init_0 Z o0 h0 n0 v U'.heap L ∧ CHr Z own_EL U.vm U.heap U'.vm U'.heap ∧ ReturnedEndW U o U' L ({ frames := 1, cells := 4, slots := 8, locals := 12 } : Room).cells ({ frames := 1, cells := 4, slots := 8, locals := 12 } : Room).slots) := by
  refine MetFree.of_bodySF (plainFor_of_name own_pn_java_lang_String) hisR ?_
  intro p e s m args below meth c s₁ Bd hml0 hP hK
  obtain ⟨rfl, hZ, hh, hC0⟩ := hP
  have hx := Bd.exec
  have hby := Bd.bytes
  have hlk : meth.locks = false := BodyLoose.notSynchronized Bd
  have hml : c.maxLocals = 6 := hml0
  have hown : s.vm.findClass "java/lang/String" = some m.cls := findClass_of_methodNamed Bd.named
  have hnm := (name_of_methodNamed Bd.named Bd.method).1
  have X0 : Stand p l e ({ frames := 1, cells := 4, slots := 8, locals := 12 } : Room) (s.setVm s.vm) m #[(.ref o0), (.ref o1), (.int (0 : Int32)), (.int (0 : Int32)), .null] below meth c s₁ [] 0 0 := Stand.of_body Bd
  have e0 : s₁.heap = h0 := by rw [← hh, Bd.state]; rfl
  have N0 := Fr.nil n0
  have hS : s.Since s.vm 0 := (State.WarmedH.refl s).since 0
  have hk := Nat.zero_le h0.size
  have hEL : EW Z a0 own_EL := own_ew hw
  have A0 : CHr Z own_EL s.vm h0 s.vm h0 := CHr.refl hC0
  have K0 : Keep h0 h0 [o0] := Keep.refl _ _
  show own_Go p e below (own_KW Z own_EL s (Q_init_0 Z o0 h0 n0) ({ frames := 1, cells := 4, slots := 8, locals := 12 } : Room).cells ({ frames := 1, cells := 4, slots := 8, locals := 12 } : Room).slots) (s₁.setTop (entryFrame m #[(.ref o0), (.ref o1), (.int (0 : Int32)), (.int (0 : Int32)), .null] 6))
  rw [(by first | (simp [entryFrame, mkF, argsToLocals, Value.category]; done) | rfl : entryFrame m #[(.ref o0), (.ref o1), (.int (0 : Int32)), (.int (0 : Int32)), .null] 6 = mkF m 0 #[.val (.ref o0), .val (.ref o1), .val (.int (0 : Int32)), .val (.int (0 : Int32)), .val .null, .unset] [])]
  show own_Go p e below _ (s₁.setTop (mkF m 0 #[.val (.ref o0), .val (.ref o1), .val (.int (0 : Int32)), .val (.int (0 : Int32)), .val .null, .unset] []))
  refine own_go (fun _ hr => XS.aloadN X0.here hx rfl (hb hby own_d_jdk_42_method_149_code_0) rfl rfl hr) ?_
  show own_Go p e below _ (s₁.setTop (mkF m 1 #[.val (.ref o0), .val (.ref o1), .val (.int (0 : Int32)), .val (.int (0 : Int32)), .val .null, .unset] [(.ref o0)]))
  obtain ⟨T1, X1, e1, st1⟩ := initO X0 hx hZ hown (hw _ (own_m 15 rfl)) (hw _ (own_m 16 rfl)) (hw _ (own_m 17 rfl)) e0 (g := (mkF m 1 #[.val (.ref o0), .val (.ref o1), .val (.int (0 : Int32)), .val (.int (0 : Int32)), .val .null, .unset] [(.ref o0)])) rfl (by rw [hml]; rfl) rfl (hb hby own_d_jdk_42_method_149_code_1) (by decide) (W := 0) (by show 2 * 0 + _ ≤ _; exact Nat.le_of_eq rfl) (by decide)
  refine own_go st1 ?_
  show own_Go p e below _ (T1.setTop (mkF m 4 #[.val (.ref o0), .val (.ref o1), .val (.int (0 : Int32)), .val (.int (0 : Int32)), .val .null, .unset] []))
  refine own_go (fun _ hr => XS.iloadN X1.here hx rfl (hb hby own_d_jdk_42_method_149_code_4) rfl (XS.ifNo X1.here hx rfl (hb hby own_d_jdk_42_method_149_code_5) rfl ((if0 _ _).trans (teq (by decide)).2) (XS.aloadN X1.here hx rfl (hb hby own_d_jdk_42_method_149_code_8) rfl rfl hr))) ?_
  show own_Go p e below _ (T1.setTop (mkF m 9 #[.val (.ref o0), .val (.ref o1), .val (.int (0 : Int32)), .val (.int (0 : Int32)), .val .null, .unset] [(.ref o0)]))
  have hZo3 := hZ
  obtain ⟨a2, T2, h2, k12, b2, k2, X2, e2, E2, hS, hk2, hZ, hown, EA2, FC2, FV2, AV2, -, -, Al2, -, ne2, st2⟩ := ldcCH X1 hx hZ hown (hw _ (own_m 18 rfl)) (own_ws hw) e1 hS hk hEL (by simp [own_EL]) A0.1 (vs := []) (z := (0 : Int32)) ⟨by decide, by decide⟩ (by decide) (by decide) (g := (mkF m 9 #[.val (.ref o0), .val (.ref o1), .val (.int (0 : Int32)), .val (.int (0 : Int32)), .val .null, .unset] [(.ref o0)])) rfl (hb hby own_d_jdk_42_method_149_code_9) (n := 0) (by decide) (by decide) (by decide) (by decide)
  refine own_go st2 ?_
  show own_Go p e below _ (T2.setTop (mkF m 11 #[.val (.ref o0), .val (.ref o1), .val (.int (0 : Int32)), .val (.int (0 : Int32)), .val .null, .unset] [(.ref a2), (.ref o0)]))
  obtain ⟨T4, X4, e4, st4⟩ := getF X2 hx hZ hown (host := "") (Or.inl (hw _ (own_m 24 rfl))) Via.refl e2 FV2 (g := (mkF m 11 #[.val (.ref o0), .val (.ref o1), .val (.int (0 : Int32)), .val (.int (0 : Int32)), .val .null, .unset] [(.ref a2), (.ref o0)])) rfl rfl (hb hby own_d_jdk_42_method_149_code_11)
  refine own_go st4 ?_
  show own_Go p e below _ (T4.setTop (mkF m 14 #[.val (.ref o0), .val (.ref o1), .val (.int (0 : Int32)), .val (.int (0 : Int32)), .val .null, .unset] [(.ref b2), (.ref o0)]))
  have f5 := (P0.ext E2)
  have f6 := (P1.ext E2)
  obtain ⟨T7, h7, X7, e7, W7, st7⟩ := putF X4 hx hZ hown (host := "") (Or.inl (hw _ (own_m 24 rfl))) Via.refl e4 f6 f5 (Or.inr ⟨(hw _ (own_m 20 rfl)), rfl, hnm⟩) (hw _ (own_m 5 rfl)) (ty := (.array .byte)) (by decide) rfl rfl (g := (mkF m 14 #[.val (.ref o0), .val (.ref o1), .val (.int (0 : Int32)), .val (.int (0 : Int32)), .val .null, .unset] [(.ref b2), (.ref o0)])) rfl rfl (hb hby own_d_jdk_42_method_149_code_14)
  refine own_go st7 ?_
  have f8 := f6.same W7
  have N9 := Fr.snoc X7 N0 ge0p
  show own_Go p e below _ (T7.setTop (mkF m 17 #[.val (.ref o0), .val (.ref o1), .val (.int (0 : Int32)), .val (.int (0 : Int32)), .val .null, .unset] []))
  refine own_go (fun _ hr => XS.aloadN X7.here hx rfl (hb hby own_d_jdk_42_method_149_code_17) rfl rfl hr) ?_
  show own_Go p e below _ (T7.setTop (mkF m 18 #[.val (.ref o0), .val (.ref o1), .val (.int (0 : Int32)), .val (.int (0 : Int32)), .val .null, .unset] [(.ref o0)]))
  have A11 := A0.trans Al2
  have sf13 := (Al2.safe P0.lt (own_safe_null hZo3.alike P0 P1))
  have A12 := A11.trans (CHr.wr W7 sf13 A11.1)
  have hk14 := (Nat.le_trans hk2 (Nat.le_of_eq W7.size.symm))
  have hZo15 := hZ
  obtain ⟨a10, T10, h10, k110, b10, k10, X10, e10, E10, hS, hk10, hZ, hown, EA10, FC10, FV10, AV10, -, -, Al10, -, ne10, st10⟩ := ldcCH X7 hx hZ hown (hw _ (own_m 18 rfl)) (own_ws hw) e7 hS hk14 hEL (by simp [own_EL]) A12.1 (vs := []) (z := (0 : Int32)) ⟨by decide, by decide⟩ (by decide) (by decide) (g := (mkF m 18 #[.val (.ref o0), .val (.ref o1), .val (.int (0 : Int32)), .val (.int (0 : Int32)), .val .null, .unset] [(.ref o0)])) rfl (hb hby own_d_jdk_42_method_149_code_18) (n := 0) (by decide) (by decide) (by decide) (by decide)
  refine own_go st10 ?_
  show own_Go p e below _ (T10.setTop (mkF m 20 #[.val (.ref o0), .val (.ref o1), .val (.int (0 : Int32)), .val (.int (0 : Int32)), .val .null, .unset] [(.ref a10), (.ref o0)]))
  obtain ⟨T16, X16, e16, st16⟩ := getF X10 hx hZ hown (host := "") (Or.inl (hw _ (own_m 25 rfl))) Via.refl e10 FC10 (g := (mkF m 20 #[.val (.ref o0), .val (.ref o1), .val (.int (0 : Int32)), .val (.int (0 : Int32)), .val .null, .unset] [(.ref a10), (.ref o0)])) rfl rfl (hb hby own_d_jdk_42_method_149_code_20)
  refine own_go st16 ?_
  show own_Go p e below _ (T16.setTop (mkF m 23 #[.val (.ref o0), .val (.ref o1), .val (.int (0 : Int32)), .val (.int (0 : Int32)), .val .null, .unset] [(.int (0 : Int32)), (.ref o0)]))
  have f17 := ((f5.wr W7).ext E10)
  have f18 := (((P2.ext E2).other W7 (Or.inr (slot_ne (Or.inr (hw _ (own_m 21 rfl))) (Or.inr (hw _ (own_m 20 rfl))) (by decide) (t := .byte) (t' := (.array .byte)) (by decide) (by decide)))).ext E10)
  obtain ⟨T19, h19, X19, e19, W19, st19⟩ := putFN X16 hx hZ hown (hw _ (own_m 25 rfl)) Via.refl e16 f18 f17 (Or.inr ⟨(hw _ (own_m 21 rfl)), rfl, hnm⟩) (hw _ (own_m 5 rfl)) (ty := .byte) (v' := .int (0 : Int32)) (by decide) rfl (by decide) (g := (mkF m 23 #[.val (.ref o0), .val (.ref o1), .val (.int (0 : Int32)), .val (.int (0 : Int32)), .val .null, .unset] [(.int (0 : Int32)), (.ref o0)])) rfl rfl (hb hby own_d_jdk_42_method_149_code_23)
  refine own_go st19 ?_
  have f20 := f18.same W19
  have N21 := Fr.snoc X19 N9 ge0p
  show own_Go p e below _ (T19.setTop (mkF m 26 #[.val (.ref o0), .val (.ref o1), .val (.int (0 : Int32)), .val (.int (0 : Int32)), .val .null, .unset] []))
  have f22 := ((f8.ext E10).other W19 (Or.inr (slot_ne (Or.inr (hw _ (own_m 20 rfl))) (Or.inr (hw _ (own_m 21 rfl))) (by decide) (t := (.array .byte)) (t' := .byte) (by decide) (by decide))))
  have f23 := (((AV2.other W7 (Ne.symm (ne2 o0 sf13).2)).ext E10).other W19 (Ne.symm (ne2 o0 sf13).2))
  have K24 := ((((K0.ext E2).wr W7 (Or.inl (List.mem_of_getElem? (i := 0) rfl))).ext E10).wr W19 (Or.inl (List.mem_of_getElem? (i := 0) rfl)))
  have hk25 := (Nat.le_trans hk10 (Nat.le_of_eq W19.size.symm))
  have A26 := A12.trans Al10
  have sf28 := (Al10.safe (f5.wr W7).lt (Safe.wr W7 sf13 A11.1 sf13))
  have A27 := A26.trans (CHr.wr W19 sf28 A26.1)
  exact own_ret0W X19 hx hlk Bd.returns hS hk25 hZ hEL hh e19 A27 (hb hby own_d_jdk_42_method_149_code_26) (by decide) (by decide) (by rw [e19]; exact ⟨b2, k2, rfl, N21, K24, f20, f22, f23⟩)
theorem own_pd0 : parseMethodDescriptor "([CIILjava/lang/Void;)V" = some ⟨[(.array .char), .int, .int, (.object "java/lang/Void")], none⟩ := by decide +kernel
theorem own_d_jdk_42_method_3_code_9 : decode jdk_42_method_3_code 9 = .ok (.return_, 1) := by decide +kernel
def Q_init_1 (Z : State) (o0 : Addr) (h0 : Heap) (n0 : Nat) (v : Option Value) (h : Heap) (L : List Loc) : Prop := (∃ (b1_0 : Addr) (kb1_0 : ClassId), v = none ∧ Fr n0 L ∧ Keep h0 h [o0] ∧ Fld Z h o0 "java/lang/String" "coder" "B" (.int (0 : Int32)) ∧ Fld Z h o0 "java/lang/String" "value" "[B" (.ref b1_0) ∧ Arv Z h b1_0 kb1_0 .byte (0 : Int32) [] (.int (0 : Int32)))
set_option maxRecDepth 65536 in
set_option maxHeartbeats 40000000 in
theorem rm_init_1 (l : Launch) (Z : State) (a0 : Array Value) (hw : ∀ d ∈ tables_1, d.before a0 Z = true) (ws : List Jvm.Cond) (o0 : Addr) (o1 : Addr) (kc0 : ClassId) (h0 : Heap) (n0 : Nat) (Z0 : n0 ≤ h0.size) (P0 : Arv Z h0 o1 kc0 .char (0 : Int32) [] (.int (0 : Int32))) (P1 : Exa Z h0 o0 "java/lang/String") (P2 : Fld Z h0 o0 "java/lang/String" "value" "[B" .null) (P3 : Fld Z h0 o0 "java/lang/String" "coder" "B" (.int (0 : Int32))) (ge0p : n0 ≤ o0) :
    MetFree l (⟨"java/lang/String", "<init>", "([C)V"⟩ : MethodName) (head1 (Jvm.Cond.code (⟨"java/lang/String", "<init>", "([C)V"⟩ : MethodName) jdk_42_method_3_code 2 none :: ws) ({ frames := 2, cells := 4, slots := 8, locals := 29 } : Room)) (fun aA U => aA = #[(.ref o0), (.ref o1)] ∧ Z.Warmed39 U.vm ∧ U.heap = h0 ∧ CHv Z own_EL U.vm h0) (fun _ _ _ _ _ => True) (fun _ U o U' => ∃ v L, o = .returned v ∧ Q_init_1 Z o0 h0 n0 v U'.heap L ∧ CHr Z own_EL U.vm U.heap U'.vm U'.heap ∧ ReturnedEndW U o U' L ({ frames := 2, cells := 4, slots := 8, locals := 29 } : Room).cells ({ frames := 2, cells := 4, slots := 8, locals := 29 } : Room).slots) := by
  refine MetFree.of_bodySF (plainFor_of_name own_pn_java_lang_String) hisR ?_
  intro p e s m args below meth c s₁ Bd hml0 hP hK
  obtain ⟨rfl, hZ, hh, hC0⟩ := hP
  have hx := Bd.exec
  have hby := Bd.bytes
  have hlk : meth.locks = false := BodyLoose.notSynchronized Bd
  have hml : c.maxLocals = 2 := hml0
  have hown : s.vm.findClass "java/lang/String" = some m.cls := findClass_of_methodNamed Bd.named
  have hnm := (name_of_methodNamed Bd.named Bd.method).1
  have X0 : Stand p l e ({ frames := 2, cells := 4, slots := 8, locals := 29 } : Room) (s.setVm s.vm) m #[(.ref o0), (.ref o1)] below meth c s₁ [] 0 0 := Stand.of_body Bd
  have e0 : s₁.heap = h0 := by rw [← hh, Bd.state]; rfl
  have N0 := Fr.nil n0
  have hS : s.Since s.vm 0 := (State.WarmedH.refl s).since 0
  have hk := Nat.zero_le h0.size
  have hEL : EW Z a0 own_EL := own_ew hw
  have A0 : CHr Z own_EL s.vm h0 s.vm h0 := CHr.refl hC0
  have K0 : Keep h0 h0 [o0] := Keep.refl _ _
  show own_Go p e below (own_KW Z own_EL s (Q_init_1 Z o0 h0 n0) ({ frames := 2, cells := 4, slots := 8, locals := 29 } : Room).cells ({ frames := 2, cells := 4, slots := 8, locals := 29 } : Room).slots) (s₁.setTop (entryFrame m #[(.ref o0), (.ref o1)] 2))
  rw [(by first | (simp [entryFrame, mkF, argsToLocals, Value.category]; done) | rfl : entryFrame m #[(.ref o0), (.ref o1)] 2 = mkF m 0 #[.val (.ref o0), .val (.ref o1)] [])]
  show own_Go p e below _ (s₁.setTop (mkF m 0 #[.val (.ref o0), .val (.ref o1)] []))
  refine own_go (fun _ hr => XS.aloadN X0.here hx rfl (hb hby own_d_jdk_42_method_3_code_0) rfl rfl (XS.aloadN X0.here hx rfl (hb hby own_d_jdk_42_method_3_code_1) rfl rfl (XS.iconst X0.here hx rfl (hb hby own_d_jdk_42_method_3_code_2) (XS.aloadN X0.here hx rfl (hb hby own_d_jdk_42_method_3_code_3) rfl rfl (own_alen X0 hx hZ e0 P0 rfl rfl (hb hby own_d_jdk_42_method_3_code_4) (XS.aconstNull X0.here hx rfl (hb hby own_d_jdk_42_method_3_code_5) hr)))))) ?_
  show own_Go p e below _ (s₁.setTop (mkF m 6 #[.val (.ref o0), .val (.ref o1)] [.null, (.int (0 : Int32)), (.int (0 : Int32)), (.ref o1), (.ref o0)]))
  have hZo2 := hZ
  refine own_cpW X0 hx hZ hown rfl (hw _ (own_m 11 rfl)) (hw _ (own_m 12 rfl)) (hw _ (own_m 6 rfl)) (hw _ (own_m 14 rfl)) (by decide) (rm := { frames := 1, cells := 4, slots := 8, locals := 12 }) (rm_init_0 l Z a0 hw [] o0 o1 h0 n0 Z0 P1 P2 P3 ge0p) (by decide) (W := 0) (by decide) (by decide) (by decide) e0 hEL A0.1 hS hk (by rw [hml]; rfl) (argsL := [(.ref o1), (.int (0 : Int32)), (.int (0 : Int32)), .null]) (lenOf own_pd0 rfl) (rest := []) rfl rfl (Nat.le_of_eq rfl) (hb hby own_d_jdk_42_method_3_code_6) ?_
  intro _ T1 L1 X1 hQ1 Ac1 hS hZ hown
  obtain ⟨b1_0, kb1_0, rfl, N1q, K1, f1_0, f1_1, f1_2⟩ := hQ1
  have N1 := Fr.app N0 N1q
  show own_Go p e below _ (T1.setTop (mkF m 9 #[.val (.ref o0), .val (.ref o1)] []))
  have K3 := (K0.trans K1 (allS (Or.inl (List.mem_of_getElem? (i := 0) rfl)) all0))
  have A4 := A0.trans Ac1
  exact own_ret0W X1 hx hlk Bd.returns hS (Nat.le_refl _) hZ hEL hh rfl A4 (hb hby own_d_jdk_42_method_3_code_9) (by decide) (by decide) (by exact ⟨b1_0, kb1_0, rfl, N1, K3, f1_0, f1_1, f1_2⟩)
theorem own_pd1 : parseMethodDescriptor "([C)V" = some ⟨[(.array .char)], none⟩ := by decide +kernel
theorem own_d_method_2_code_31 : decode method_2_code 31 = .ok (.areturn, 1) := by decide +kernel
theorem own_d_method_2_code_32 : decode method_2_code 32 = .ok (.iload_n 1, 1) := by decide +kernel
theorem own_d_method_2_code_33 : decode method_2_code 33 = .ok (.iconst 1, 1) := by decide +kernel
theorem own_d_method_2_code_34 : decode method_2_code 34 = .ok (.if_icmp .ne 18, 3) := by decide +kernel
theorem own_d_method_2_code_37 : decode method_2_code 37 = .ok (.new 7, 3) := by decide +kernel
theorem own_d_method_2_code_40 : decode method_2_code 40 = .ok (.dup, 1) := by decide +kernel
theorem own_d_method_2_code_41 : decode method_2_code 41 = .ok (.iconst 1, 1) := by decide +kernel
theorem own_d_method_2_code_42 : decode method_2_code 42 = .ok (.newarray .char, 2) := by decide +kernel
theorem own_d_method_2_code_44 : decode method_2_code 44 = .ok (.dup, 1) := by decide +kernel
theorem own_d_method_2_code_45 : decode method_2_code 45 = .ok (.iconst 0, 1) := by decide +kernel
theorem own_d_method_2_code_46 : decode method_2_code 46 = .ok (.iload_n 2, 1) := by decide +kernel
theorem own_d_method_2_code_47 : decode method_2_code 47 = .ok (.castore, 1) := by decide +kernel
theorem own_d_method_2_code_48 : decode method_2_code 48 = .ok (.invokespecial 9, 3) := by decide +kernel
theorem own_d_jdk_42_method_149_code_27 : decode jdk_42_method_149_code 27 = .ok (.getstatic 38, 3) := by decide +kernel
theorem own_d_jdk_42_method_149_code_30 : decode jdk_42_method_149_code 30 = .ok (.ifCond .eq 28, 3) := by decide +kernel
theorem own_d_jdk_42_method_149_code_33 : decode jdk_42_method_149_code 33 = .ok (.aload_n 1, 1) := by decide +kernel
theorem own_d_jdk_42_method_149_code_34 : decode jdk_42_method_149_code 34 = .ok (.iload_n 2, 1) := by decide +kernel
theorem own_d_jdk_42_method_149_code_35 : decode jdk_42_method_149_code 35 = .ok (.iload_n 3, 1) := by decide +kernel
theorem own_d_jdk_42_method_149_code_36 : decode jdk_42_method_149_code 36 = .ok (.invokestatic 177, 3) := by decide +kernel
theorem own_d_jdk_52_method_16_code_0 : decode jdk_52_method_16_code 0 = .ok (.iload_n 2, 1) := by decide +kernel
theorem own_d_jdk_52_method_16_code_1 : decode jdk_52_method_16_code 1 = .ok (.newarray .byte, 2) := by decide +kernel
theorem own_d_jdk_52_method_16_code_3 : decode jdk_52_method_16_code 3 = .ok (.astore_n 3, 1) := by decide +kernel
theorem own_d_jdk_52_method_16_code_4 : decode jdk_52_method_16_code 4 = .ok (.aload_n 0, 1) := by decide +kernel
theorem own_d_jdk_52_method_16_code_5 : decode jdk_52_method_16_code 5 = .ok (.iload_n 1, 1) := by decide +kernel
theorem own_d_jdk_52_method_16_code_6 : decode jdk_52_method_16_code 6 = .ok (.aload_n 3, 1) := by decide +kernel
theorem own_d_jdk_52_method_16_code_7 : decode jdk_52_method_16_code 7 = .ok (.iconst 0, 1) := by decide +kernel
theorem own_d_jdk_52_method_16_code_8 : decode jdk_52_method_16_code 8 = .ok (.iload_n 2, 1) := by decide +kernel
theorem own_d_jdk_52_method_16_code_9 : decode jdk_52_method_16_code 9 = .ok (.invokestatic 115, 3) := by decide +kernel
theorem own_d_jdk_52_method_21_code_0 : decode jdk_52_method_21_code 0 = .ok (.iconst 0, 1) := by decide +kernel
theorem own_d_jdk_52_method_21_code_1 : decode jdk_52_method_21_code 1 = .ok (.istore 5, 2) := by decide +kernel
theorem own_d_jdk_52_method_21_code_3 : decode jdk_52_method_21_code 3 = .ok (.iload 5, 2) := by decide +kernel
theorem own_d_jdk_52_method_21_code_5 : decode jdk_52_method_21_code 5 = .ok (.iload 4, 2) := by decide +kernel
theorem own_d_jdk_52_method_21_code_7 : decode jdk_52_method_21_code 7 = .ok (.if_icmp .ge 37, 3) := by decide +kernel
theorem own_d_jdk_52_method_21_code_10 : decode jdk_52_method_21_code 10 = .ok (.aload_n 0, 1) := by decide +kernel
theorem own_d_jdk_52_method_21_code_11 : decode jdk_52_method_21_code 11 = .ok (.iload_n 1, 1) := by decide +kernel
theorem own_d_jdk_52_method_21_code_12 : decode jdk_52_method_21_code 12 = .ok (.caload, 1) := by decide +kernel
theorem own_d_jdk_52_method_21_code_13 : decode jdk_52_method_21_code 13 = .ok (.istore 6, 2) := by decide +kernel
theorem own_d_jdk_52_method_21_code_15 : decode jdk_52_method_21_code 15 = .ok (.iload 6, 2) := by decide +kernel
theorem own_d_jdk_52_method_21_code_17 : decode jdk_52_method_21_code 17 = .ok (.sipush 255, 3) := by decide +kernel
theorem own_d_jdk_52_method_21_code_20 : decode jdk_52_method_21_code 20 = .ok (.if_icmp .le 6, 3) := by decide +kernel
theorem own_d_jdk_52_method_21_code_26 : decode jdk_52_method_21_code 26 = .ok (.aload_n 2, 1) := by decide +kernel
theorem own_d_jdk_52_method_21_code_27 : decode jdk_52_method_21_code 27 = .ok (.iload_n 3, 1) := by decide +kernel
theorem own_d_jdk_52_method_21_code_28 : decode jdk_52_method_21_code 28 = .ok (.iload 6, 2) := by decide +kernel
theorem own_d_jdk_52_method_21_code_30 : decode jdk_52_method_21_code 30 = .ok (.i2b, 1) := by decide +kernel
theorem own_d_jdk_52_method_21_code_31 : decode jdk_52_method_21_code 31 = .ok (.bastore, 1) := by decide +kernel
theorem own_d_jdk_52_method_21_code_32 : decode jdk_52_method_21_code 32 = .ok (.iinc 1 1, 3) := by decide +kernel
theorem own_d_jdk_52_method_21_code_35 : decode jdk_52_method_21_code 35 = .ok (.iinc 3 1, 3) := by decide +kernel
theorem own_d_jdk_52_method_21_code_38 : decode jdk_52_method_21_code 38 = .ok (.iinc 5 1, 3) := by decide +kernel
theorem own_d_jdk_52_method_21_code_41 : decode jdk_52_method_21_code 41 = .ok (.goto (-38), 3) := by decide +kernel
theorem own_d_jdk_52_method_21_code_44 : decode jdk_52_method_21_code 44 = .ok (.iload 4, 2) := by decide +kernel
theorem own_d_jdk_52_method_21_code_46 : decode jdk_52_method_21_code 46 = .ok (.ireturn, 1) := by decide +kernel
theorem own_pn_java_lang_StringUTF16 : plainName "java/lang/StringUTF16" = true := by first | (simp [plainName, overriddenIn]; done) | decide +kernel
def Q_compress_2 (Z : State) (o1 : Addr) (y0 : Int32) (kc1 : ClassId) (h0 : Heap) (n0 : Nat) (v : Option Value) (h : Heap) (L : List Loc) : Prop := (v = some (.int (1 : Int32)) ∧ Fr n0 L ∧ Keep h0 h [o1] ∧ Arv Z h o1 kc1 .byte (1 : Int32) [(.int (y0.toInt8.toInt32))] (.int (0 : Int32)))
set_option maxRecDepth 65536 in
set_option maxHeartbeats 40000000 in
theorem rm_compress_2 (l : Launch) (Z : State) (a0 : Array Value) (hw : ∀ d ∈ tables_1, d.before a0 Z = true) (ws : List Jvm.Cond) (o0 : Addr) (o1 : Addr) (y0 : Int32) (kc0 : ClassId) (kc1 : ClassId) (h0 : Heap) (n0 : Nat) (Z0 : n0 ≤ h0.size) (P0 : Arv Z h0 o0 kc0 .char (1 : Int32) [(.int y0)] (.int (0 : Int32))) (P1 : Arv Z h0 o1 kc1 .byte (1 : Int32) [(.int (0 : Int32))] (.int (0 : Int32))) (ge0p : n0 ≤ o1) (hb0 : ¬ ((255 : Int32) < y0)) (hb1 : (nar .byte (y0.toInt8.toInt32)) = (y0.toInt8.toInt32)) :
    MetFree l (⟨"java/lang/StringUTF16", "compress", "([CI[BII)I"⟩ : MethodName) (head1 (Jvm.Cond.code (⟨"java/lang/StringUTF16", "compress", "([CI[BII)I"⟩ : MethodName) jdk_52_method_21_code 7 (some .int) :: ws) ({ frames := 0, cells := 0, slots := 0, locals := 0 } : Room)) (fun aA U => aA = #[(.ref o0), (.int (0 : Int32)), (.ref o1), (.int (0 : Int32)), (.int (1 : Int32))] ∧ Z.Warmed39 U.vm ∧ U.heap = h0) (fun _ _ _ _ _ => True) (fun _ U o U' => ∃ v L, o = .returned v ∧ Q_compress_2 Z o1 y0 kc1 h0 n0 v U'.heap L ∧ FrameEnd U o U' L ({ frames := 0, cells := 0, slots := 0, locals := 0 } : Room).cells ({ frames := 0, cells := 0, slots := 0, locals := 0 } : Room).slots) := by
  refine MetFree.of_bodySF (plainFor_of_name own_pn_java_lang_StringUTF16) hisR ?_
  intro p e s m args below meth c s₁ Bd hml0 hP hK
  obtain ⟨rfl, hZ, hh⟩ := hP
  have hx := Bd.exec
  have hby := Bd.bytes
  have hlk : meth.locks = false := BodyLoose.notSynchronized Bd
  have hml : c.maxLocals = 7 := hml0
  have hown : s.vm.findClass "java/lang/StringUTF16" = some m.cls := findClass_of_methodNamed Bd.named
  have hnm := (name_of_methodNamed Bd.named Bd.method).1
  have X0 : Stand p l e ({ frames := 0, cells := 0, slots := 0, locals := 0 } : Room) s m #[(.ref o0), (.int (0 : Int32)), (.ref o1), (.int (0 : Int32)), (.int (1 : Int32))] below meth c s₁ [] 0 0 := Stand.of_body Bd
  have e0 : s₁.heap = h0 := by rw [← hh, Bd.state]; rfl
  have N0 := Fr.nil n0
  have K0 : Keep h0 h0 [o1] := Keep.refl _ _
  show own_Go p e below (own_K s (Q_compress_2 Z o1 y0 kc1 h0 n0) ({ frames := 0, cells := 0, slots := 0, locals := 0 } : Room).cells ({ frames := 0, cells := 0, slots := 0, locals := 0 } : Room).slots) (s₁.setTop (entryFrame m #[(.ref o0), (.int (0 : Int32)), (.ref o1), (.int (0 : Int32)), (.int (1 : Int32))] 7))
  rw [(by first | (simp [entryFrame, mkF, argsToLocals, Value.category]; done) | rfl : entryFrame m #[(.ref o0), (.int (0 : Int32)), (.ref o1), (.int (0 : Int32)), (.int (1 : Int32))] 7 = mkF m 0 #[.val (.ref o0), .val (.int (0 : Int32)), .val (.ref o1), .val (.int (0 : Int32)), .val (.int (1 : Int32)), .unset, .unset] [])]
  show own_Go p e below _ (s₁.setTop (mkF m 0 #[.val (.ref o0), .val (.int (0 : Int32)), .val (.ref o1), .val (.int (0 : Int32)), .val (.int (1 : Int32)), .unset, .unset] []))
  refine own_go (fun _ hr => XS.iconst X0.here hx rfl (hb hby own_d_jdk_52_method_21_code_0) (XS.istore X0.here hx rfl (hb hby own_d_jdk_52_method_21_code_1) rfl (l' := #[.val (.ref o0), .val (.int (0 : Int32)), .val (.ref o1), .val (.int (0 : Int32)), .val (.int (1 : Int32)), .val (.int (0 : Int32)), .unset]) rfl (XS.iload X0.here hx rfl (hb hby own_d_jdk_52_method_21_code_3) rfl (XS.iload X0.here hx rfl (hb hby own_d_jdk_52_method_21_code_5) rfl (XS.icmpNo X0.here hx rfl (hb hby own_d_jdk_52_method_21_code_7) rfl (tlt (by decide)).2.1 (XS.aloadN X0.here hx rfl (hb hby own_d_jdk_52_method_21_code_10) rfl rfl (XS.iloadN X0.here hx rfl (hb hby own_d_jdk_52_method_21_code_11) rfl (own_caload X0 hx hZ e0 P0 (0 : Int32) (.int y0) ⟨by decide, by decide⟩ rfl rfl rfl (hb hby own_d_jdk_52_method_21_code_12) (XS.istore X0.here hx rfl (hb hby own_d_jdk_52_method_21_code_13) rfl (l' := #[.val (.ref o0), .val (.int (0 : Int32)), .val (.ref o1), .val (.int (0 : Int32)), .val (.int (1 : Int32)), .val (.int (0 : Int32)), .val (.int y0)]) rfl (XS.iload X0.here hx rfl (hb hby own_d_jdk_52_method_21_code_15) rfl hr)))))))))) ?_
  show own_Go p e below _ (s₁.setTop (mkF m 17 #[.val (.ref o0), .val (.int (0 : Int32)), .val (.ref o1), .val (.int (0 : Int32)), .val (.int (1 : Int32)), .val (.int (0 : Int32)), .val (.int y0)] [(.int y0)]))
  refine own_go (fun _ hr => XS.sipush X0.here hx rfl (hb hby own_d_jdk_52_method_21_code_17) hr) ?_
  show own_Go p e below _ (s₁.setTop (mkF m 20 #[.val (.ref o0), .val (.int (0 : Int32)), .val (.ref o1), .val (.int (0 : Int32)), .val (.int (1 : Int32)), .val (.int (0 : Int32)), .val (.int y0)] [(.int (255 : Int32)), (.int y0)]))
  refine own_go (fun _ hr => XS.icmpYes X0.here hx rfl (pc0 := 20) (pc' := 26) rfl (hb hby own_d_jdk_52_method_21_code_20) rfl (flt hb0).2.2.2 (by decide) (by decide) hr) ?_
  show own_Go p e below _ (s₁.setTop (mkF m 26 #[.val (.ref o0), .val (.int (0 : Int32)), .val (.ref o1), .val (.int (0 : Int32)), .val (.int (1 : Int32)), .val (.int (0 : Int32)), .val (.int y0)] []))
  refine own_go (fun _ hr => XS.aloadN X0.here hx rfl (hb hby own_d_jdk_52_method_21_code_26) rfl rfl (XS.iloadN X0.here hx rfl (hb hby own_d_jdk_52_method_21_code_27) rfl (XS.iload X0.here hx rfl (hb hby own_d_jdk_52_method_21_code_28) rfl (XS.i2b X0.here hx rfl (hb hby own_d_jdk_52_method_21_code_30) rfl hr)))) ?_
  show own_Go p e below _ (s₁.setTop (mkF m 31 #[.val (.ref o0), .val (.int (0 : Int32)), .val (.ref o1), .val (.int (0 : Int32)), .val (.int (1 : Int32)), .val (.int (0 : Int32)), .val (.int y0)] [(.int (y0.toInt8.toInt32)), (.int (0 : Int32)), (.ref o1)]))
  refine own_stB X0 hx hZ e0 P1 (0 : Int32) (y0.toInt8.toInt32) (y0.toInt8.toInt32) 0 ⟨by decide, by decide⟩ rfl (Nat.le_of_ble_eq_true rfl) hb1 [(.int (y0.toInt8.toInt32))] rfl N0 ge0p (hb hby own_d_jdk_52_method_21_code_31) ?_
  intro T1 h1 L1 X1 e1 W1 N1 f1
  show own_Go p e below _ (T1.setTop (mkF m 32 #[.val (.ref o0), .val (.int (0 : Int32)), .val (.ref o1), .val (.int (0 : Int32)), .val (.int (1 : Int32)), .val (.int (0 : Int32)), .val (.int y0)] []))
  refine own_go (fun _ hr => XS.iinc X1.here hx rfl (hb hby own_d_jdk_52_method_21_code_32) rfl (l' := #[.val (.ref o0), .val (.int (1 : Int32)), .val (.ref o1), .val (.int (0 : Int32)), .val (.int (1 : Int32)), .val (.int (0 : Int32)), .val (.int y0)]) rfl (XS.iinc X1.here hx rfl (hb hby own_d_jdk_52_method_21_code_35) rfl (l' := #[.val (.ref o0), .val (.int (1 : Int32)), .val (.ref o1), .val (.int (1 : Int32)), .val (.int (1 : Int32)), .val (.int (0 : Int32)), .val (.int y0)]) rfl (XS.iinc X1.here hx rfl (hb hby own_d_jdk_52_method_21_code_38) rfl (l' := #[.val (.ref o0), .val (.int (1 : Int32)), .val (.ref o1), .val (.int (1 : Int32)), .val (.int (1 : Int32)), .val (.int (1 : Int32)), .val (.int y0)]) rfl (XS.goto X1.here hx rfl (pc0 := 41) (pc' := 3) rfl (hb hby own_d_jdk_52_method_21_code_41) (by decide) (by decide) (XS.iload X1.here hx rfl (hb hby own_d_jdk_52_method_21_code_3) rfl (XS.iload X1.here hx rfl (hb hby own_d_jdk_52_method_21_code_5) rfl (XS.icmpYes X1.here hx rfl (pc0 := 7) (pc' := 44) rfl (hb hby own_d_jdk_52_method_21_code_7) rfl (flt (by decide)).2.1 (by decide) (by decide) (XS.iload X1.here hx rfl (hb hby own_d_jdk_52_method_21_code_44) rfl hr)))))))) ?_
  show own_Go p e below _ (T1.setTop (mkF m 46 #[.val (.ref o0), .val (.int (1 : Int32)), .val (.ref o1), .val (.int (1 : Int32)), .val (.int (1 : Int32)), .val (.int (1 : Int32)), .val (.int y0)] [(.int (1 : Int32))]))
  have K2 := (K0.wr W1 (Or.inl (List.mem_of_getElem? (i := 0) rfl)))
  exact own_retI X1 hx hlk Bd.returns (hb hby own_d_jdk_52_method_21_code_46) (by decide) (by decide) (by rw [e1]; exact ⟨rfl, N1, K2, f1⟩)
theorem own_pd2 : parseMethodDescriptor "([CI[BII)I" = some ⟨[(.array .char), .int, (.array .byte), .int, .int], some .int⟩ := by decide +kernel
theorem own_d_jdk_52_method_16_code_12 : decode jdk_52_method_16_code 12 = .ok (.istore 4, 2) := by decide +kernel
theorem own_d_jdk_52_method_16_code_14 : decode jdk_52_method_16_code 14 = .ok (.iload 4, 2) := by decide +kernel
theorem own_d_jdk_52_method_16_code_16 : decode jdk_52_method_16_code 16 = .ok (.iload_n 2, 1) := by decide +kernel
theorem own_d_jdk_52_method_16_code_17 : decode jdk_52_method_16_code 17 = .ok (.if_icmp .eq 40, 3) := by decide +kernel
theorem own_d_jdk_52_method_16_code_57 : decode jdk_52_method_16_code 57 = .ok (.aload_n 3, 1) := by decide +kernel
theorem own_d_jdk_52_method_16_code_58 : decode jdk_52_method_16_code 58 = .ok (.areturn, 1) := by decide +kernel
def Q_compress_3 (Z : State) (y0 : Int32) (h0 : Heap) (n0 : Nat) (v : Option Value) (h : Heap) (L : List Loc) : Prop := (∃ (b1 : Addr) (k1 : ClassId), v = some (.ref b1) ∧ Fr n0 L ∧ Keep h0 h [] ∧ n0 ≤ b1 ∧ h0.size ≤ b1 ∧ Exa Z h b1 "[B" ∧ Arv Z h b1 k1 .byte (1 : Int32) [(.int (y0.toInt8.toInt32))] (.int (0 : Int32)))
set_option maxRecDepth 65536 in
set_option maxHeartbeats 40000000 in
theorem rm_compress_3 (l : Launch) (Z : State) (a0 : Array Value) (hw : ∀ d ∈ tables_1, d.before a0 Z = true) (ws : List Jvm.Cond) (o0 : Addr) (y0 : Int32) (kc0 : ClassId) (h0 : Heap) (n0 : Nat) (Z0 : n0 ≤ h0.size) (P0 : Arv Z h0 o0 kc0 .char (1 : Int32) [(.int y0)] (.int (0 : Int32))) (hb0 : ¬ ((255 : Int32) < y0)) (hb1 : (nar .byte (y0.toInt8.toInt32)) = (y0.toInt8.toInt32)) :
    MetFree l (⟨"java/lang/StringUTF16", "compress", "([CII)[B"⟩ : MethodName) (head1 (Jvm.Cond.code (⟨"java/lang/StringUTF16", "compress", "([CII)[B"⟩ : MethodName) jdk_52_method_16_code 6 (some (.array .byte)) :: ws) ({ frames := 1, cells := 1, slots := 1, locals := 18 } : Room)) (fun aA U => aA = #[(.ref o0), (.int (0 : Int32)), (.int (1 : Int32))] ∧ Z.Warmed39 U.vm ∧ U.heap = h0) (fun _ _ _ _ _ => True) (fun _ U o U' => ∃ v L, o = .returned v ∧ Q_compress_3 Z y0 h0 n0 v U'.heap L ∧ FrameEnd U o U' L ({ frames := 1, cells := 1, slots := 1, locals := 18 } : Room).cells ({ frames := 1, cells := 1, slots := 1, locals := 18 } : Room).slots) := by
  refine MetFree.of_bodySF (plainFor_of_name own_pn_java_lang_StringUTF16) hisR ?_
  intro p e s m args below meth c s₁ Bd hml0 hP hK
  obtain ⟨rfl, hZ, hh⟩ := hP
  have hx := Bd.exec
  have hby := Bd.bytes
  have hlk : meth.locks = false := BodyLoose.notSynchronized Bd
  have hml : c.maxLocals = 6 := hml0
  have hown : s.vm.findClass "java/lang/StringUTF16" = some m.cls := findClass_of_methodNamed Bd.named
  have hnm := (name_of_methodNamed Bd.named Bd.method).1
  have X0 : Stand p l e ({ frames := 1, cells := 1, slots := 1, locals := 18 } : Room) s m #[(.ref o0), (.int (0 : Int32)), (.int (1 : Int32))] below meth c s₁ [] 0 0 := Stand.of_body Bd
  have e0 : s₁.heap = h0 := by rw [← hh, Bd.state]; rfl
  have N0 := Fr.nil n0
  have K0 : Keep h0 h0 [] := Keep.refl _ _
  show own_Go p e below (own_K s (Q_compress_3 Z y0 h0 n0) ({ frames := 1, cells := 1, slots := 1, locals := 18 } : Room).cells ({ frames := 1, cells := 1, slots := 1, locals := 18 } : Room).slots) (s₁.setTop (entryFrame m #[(.ref o0), (.int (0 : Int32)), (.int (1 : Int32))] 6))
  rw [(by first | (simp [entryFrame, mkF, argsToLocals, Value.category]; done) | rfl : entryFrame m #[(.ref o0), (.int (0 : Int32)), (.int (1 : Int32))] 6 = mkF m 0 #[.val (.ref o0), .val (.int (0 : Int32)), .val (.int (1 : Int32)), .unset, .unset, .unset] [])]
  show own_Go p e below _ (s₁.setTop (mkF m 0 #[.val (.ref o0), .val (.int (0 : Int32)), .val (.int (1 : Int32)), .unset, .unset, .unset] []))
  refine own_go (fun _ hr => XS.iloadN X0.here hx rfl (hb hby own_d_jdk_52_method_16_code_0) rfl hr) ?_
  show own_Go p e below _ (s₁.setTop (mkF m 1 #[.val (.ref o0), .val (.int (0 : Int32)), .val (.int (1 : Int32)), .unset, .unset, .unset] [(.int (1 : Int32))]))
  obtain ⟨T1, h1, k1, X1, e1, E1, A1, EA1, st1⟩ := newPE X0 hx hZ (hw _ (own_m 19 rfl)) e0 (g := (mkF m 1 #[.val (.ref o0), .val (.int (0 : Int32)), .val (.int (1 : Int32)), .unset, .unset, .unset] [(.int (1 : Int32))])) rfl (hb hby own_d_jdk_52_method_16_code_1) rfl (by decide) (cap := 1) (by decide) (by decide) (by decide) (by decide) (ad := "[B") (by decide)
  obtain ⟨b1, g1⟩ : ∃ z, z = h0.size := ⟨_, rfl⟩
  rw [← g1] at A1 EA1 st1
  have ge2 : n0 ≤ b1 := Nat.le_trans Z0 (Nat.le_of_eq g1.symm)
  have sz3 : h0.size ≤ b1 := Nat.le_trans K0.1 (Nat.le_of_eq g1.symm)
  refine own_go st1 ?_
  have f4 : Arv Z h1 b1 k1 .byte (1 : Int32) [(.int (0 : Int32))] (.int (0 : Int32)) := (Arv.new A1 (by decide)).pad (pad_rep [] (.int (0 : Int32)) 1)
  show own_Go p e below _ (T1.setTop (mkF m 3 #[.val (.ref o0), .val (.int (0 : Int32)), .val (.int (1 : Int32)), .unset, .unset, .unset] [(.ref b1)]))
  refine own_go (fun _ hr => XS.astoreN X1.here hx rfl (hb hby own_d_jdk_52_method_16_code_3) rfl rfl (l' := #[.val (.ref o0), .val (.int (0 : Int32)), .val (.int (1 : Int32)), .val (.ref b1), .unset, .unset]) rfl (XS.aloadN X1.here hx rfl (hb hby own_d_jdk_52_method_16_code_4) rfl rfl (XS.iloadN X1.here hx rfl (hb hby own_d_jdk_52_method_16_code_5) rfl (XS.aloadN X1.here hx rfl (hb hby own_d_jdk_52_method_16_code_6) rfl rfl (XS.iconst X1.here hx rfl (hb hby own_d_jdk_52_method_16_code_7) (XS.iloadN X1.here hx rfl (hb hby own_d_jdk_52_method_16_code_8) rfl hr)))))) ?_
  show own_Go p e below _ (T1.setTop (mkF m 9 #[.val (.ref o0), .val (.int (0 : Int32)), .val (.int (1 : Int32)), .val (.ref b1), .unset, .unset] [(.int (1 : Int32)), (.int (0 : Int32)), (.ref b1), (.int (0 : Int32)), (.ref o0)]))
  have f6 := (P0.ext E1)
  have Z7 := (Nat.le_trans Z0 E1.1)
  refine own_cs X1 hx hZ hown (hw _ (own_m 49 rfl)) (hw _ (own_m 50 rfl)) (hw _ (own_m 47 rfl)) (hw _ (own_m 51 rfl)) (by decide) (rm := { frames := 0, cells := 0, slots := 0, locals := 0 }) (rm_compress_2 l Z a0 hw [] o0 b1 y0 kc0 k1 h1 n0 Z7 f6 f4 ge2 hb0 hb1) (by decide) (W := 0) (by decide) (by decide) (by decide) e1 (by rw [hml]; rfl) (argsL := [(.ref o0), (.int (0 : Int32)), (.ref b1), (.int (0 : Int32)), (.int (1 : Int32))]) (lenOf own_pd2 rfl) (rest := []) rfl rfl (Nat.le_of_eq rfl) (hb hby own_d_jdk_52_method_16_code_9) ?_
  intro _ T5 L5 X5 hQ5
  obtain ⟨rfl, N5q, K5, f5_0⟩ := hQ5
  have N5 := Fr.app N0 N5q
  show own_Go p e below _ (T5.setTop (mkF m 12 #[.val (.ref o0), .val (.int (0 : Int32)), .val (.int (1 : Int32)), .val (.ref b1), .unset, .unset] [(.int (1 : Int32))]))
  refine own_go (fun _ hr => XS.istore X5.here hx rfl (hb hby own_d_jdk_52_method_16_code_12) rfl (l' := #[.val (.ref o0), .val (.int (0 : Int32)), .val (.int (1 : Int32)), .val (.ref b1), .val (.int (1 : Int32)), .unset]) rfl (XS.iload X5.here hx rfl (hb hby own_d_jdk_52_method_16_code_14) rfl (XS.iloadN X5.here hx rfl (hb hby own_d_jdk_52_method_16_code_16) rfl (XS.icmpYes X5.here hx rfl (pc0 := 17) (pc' := 57) rfl (hb hby own_d_jdk_52_method_16_code_17) rfl (teq (by decide)).1 (by decide) (by decide) (XS.aloadN X5.here hx rfl (hb hby own_d_jdk_52_method_16_code_57) rfl rfl hr))))) ?_
  show own_Go p e below _ (T5.setTop (mkF m 58 #[.val (.ref o0), .val (.int (0 : Int32)), .val (.int (1 : Int32)), .val (.ref b1), .val (.int (1 : Int32)), .unset] [(.ref b1)]))
  have f8 := (EA1.keep K5)
  have K9 := ((K0.ext E1).trans K5 (allS (Or.inr sz3) all0))
  exact own_retR X5 hx hlk Bd.returns rfl rfl (hb hby own_d_jdk_52_method_16_code_58) (by decide) (by decide) (by exact ⟨b1, k1, rfl, N5, K9, ge2, sz3, f8, f5_0⟩)
theorem own_pd3 : parseMethodDescriptor "([CII)[B" = some ⟨[(.array .char), .int, .int], some (.array .byte)⟩ := by decide +kernel
theorem own_d_jdk_42_method_149_code_39 : decode jdk_42_method_149_code 39 = .ok (.astore 5, 2) := by decide +kernel
theorem own_d_jdk_42_method_149_code_41 : decode jdk_42_method_149_code 41 = .ok (.aload_n 0, 1) := by decide +kernel
theorem own_d_jdk_42_method_149_code_42 : decode jdk_42_method_149_code 42 = .ok (.aload 5, 2) := by decide +kernel
theorem own_d_jdk_42_method_149_code_44 : decode jdk_42_method_149_code 44 = .ok (.iload_n 3, 1) := by decide +kernel
theorem own_d_jdk_42_method_149_code_45 : decode jdk_42_method_149_code 45 = .ok (.invokestatic 47, 3) := by decide +kernel
theorem own_d_jdk_52_method_15_code_0 : decode jdk_52_method_15_code 0 = .ok (.iload_n 1, 1) := by decide +kernel
theorem own_d_jdk_52_method_15_code_1 : decode jdk_52_method_15_code 1 = .ok (.aload_n 0, 1) := by decide +kernel
theorem own_d_jdk_52_method_15_code_2 : decode jdk_52_method_15_code 2 = .ok (.arraylength, 1) := by decide +kernel
theorem own_d_jdk_52_method_15_code_3 : decode jdk_52_method_15_code 3 = .ok (.isub, 1) := by decide +kernel
theorem own_d_jdk_52_method_15_code_4 : decode jdk_52_method_15_code 4 = .ok (.bipush 31, 2) := by decide +kernel
theorem own_d_jdk_52_method_15_code_6 : decode jdk_52_method_15_code 6 = .ok (.iushr, 1) := by decide +kernel
theorem own_d_jdk_52_method_15_code_7 : decode jdk_52_method_15_code 7 = .ok (.i2b, 1) := by decide +kernel
theorem own_d_jdk_52_method_15_code_8 : decode jdk_52_method_15_code 8 = .ok (.ireturn, 1) := by decide +kernel
def Q_coderFromArrayLen_4 (Z : State) (h0 : Heap) (n0 : Nat) (v : Option Value) (h : Heap) (L : List Loc) : Prop := v = some (.int (0 : Int32)) ∧ Fr n0 L ∧ h = h0
set_option maxRecDepth 65536 in
set_option maxHeartbeats 40000000 in
theorem rm_coderFromArrayLen_4 (l : Launch) (Z : State) (a0 : Array Value) (hw : ∀ d ∈ tables_1, d.before a0 Z = true) (ws : List Jvm.Cond) (o0 : Addr) (y0 : Int32) (kc0 : ClassId) (h0 : Heap) (n0 : Nat) (Z0 : n0 ≤ h0.size) (P0 : Arv Z h0 o0 kc0 .byte (1 : Int32) [(.int y0)] (.int (0 : Int32))) :
    MetFree l (⟨"java/lang/StringUTF16", "coderFromArrayLen", "([BI)B"⟩ : MethodName) (head1 (Jvm.Cond.code (⟨"java/lang/StringUTF16", "coderFromArrayLen", "([BI)B"⟩ : MethodName) jdk_52_method_15_code 2 (some .byte) :: ws) ({ frames := 0, cells := 0, slots := 0, locals := 0 } : Room)) (fun aA U => aA = #[(.ref o0), (.int (1 : Int32))] ∧ Z.Warmed39 U.vm ∧ U.heap = h0) (fun _ _ _ _ _ => True) (fun _ U o U' => ∃ v L, o = .returned v ∧ Q_coderFromArrayLen_4 Z h0 n0 v U'.heap L ∧ FrameEnd U o U' L ({ frames := 0, cells := 0, slots := 0, locals := 0 } : Room).cells ({ frames := 0, cells := 0, slots := 0, locals := 0 } : Room).slots) := by
  refine MetFree.of_bodySF (plainFor_of_name own_pn_java_lang_StringUTF16) hisR ?_
  intro p e s m args below meth c s₁ Bd hml0 hP hK
  obtain ⟨rfl, hZ, hh⟩ := hP
  have hx := Bd.exec
  have hby := Bd.bytes
  have hlk : meth.locks = false := BodyLoose.notSynchronized Bd
  have hml : c.maxLocals = 2 := hml0
  have hown : s.vm.findClass "java/lang/StringUTF16" = some m.cls := findClass_of_methodNamed Bd.named
  have hnm := (name_of_methodNamed Bd.named Bd.method).1
  have X0 : Stand p l e ({ frames := 0, cells := 0, slots := 0, locals := 0 } : Room) s m #[(.ref o0), (.int (1 : Int32))] below meth c s₁ [] 0 0 := Stand.of_body Bd
  have e0 : s₁.heap = h0 := by rw [← hh, Bd.state]; rfl
  have N0 := Fr.nil n0
  show own_Go p e below (own_K s (Q_coderFromArrayLen_4 Z h0 n0) ({ frames := 0, cells := 0, slots := 0, locals := 0 } : Room).cells ({ frames := 0, cells := 0, slots := 0, locals := 0 } : Room).slots) (s₁.setTop (entryFrame m #[(.ref o0), (.int (1 : Int32))] 2))
  rw [(by first | (simp [entryFrame, mkF, argsToLocals, Value.category]; done) | rfl : entryFrame m #[(.ref o0), (.int (1 : Int32))] 2 = mkF m 0 #[.val (.ref o0), .val (.int (1 : Int32))] [])]
  show own_Go p e below _ (s₁.setTop (mkF m 0 #[.val (.ref o0), .val (.int (1 : Int32))] []))
  refine own_go (fun _ hr => XS.iloadN X0.here hx rfl (hb hby own_d_jdk_52_method_15_code_0) rfl (XS.aloadN X0.here hx rfl (hb hby own_d_jdk_52_method_15_code_1) rfl rfl (own_alen X0 hx hZ e0 P0 rfl rfl (hb hby own_d_jdk_52_method_15_code_2) (XS.isub X0.here hx rfl (hb hby own_d_jdk_52_method_15_code_3) rfl (XS.bipush X0.here hx rfl (hb hby own_d_jdk_52_method_15_code_4) (XS.iushr X0.here hx rfl (hb hby own_d_jdk_52_method_15_code_6) rfl (XS.i2b X0.here hx rfl (hb hby own_d_jdk_52_method_15_code_7) rfl hr))))))) ?_
  show own_Go p e below _ (s₁.setTop (mkF m 8 #[.val (.ref o0), .val (.int (1 : Int32))] [(.int (0 : Int32))]))
  exact own_retN X0 hx hlk Bd.returns (t := .byte) (by simp) (hb hby own_d_jdk_52_method_15_code_8) (by decide) (by decide) ⟨rfl, N0, e0⟩
theorem own_pd4 : parseMethodDescriptor "([BI)B" = some ⟨[(.array .byte), .int], some .byte⟩ := by decide +kernel
theorem own_d_jdk_42_method_149_code_48 : decode jdk_42_method_149_code 48 = .ok (.putfield 15, 3) := by decide +kernel
theorem own_d_jdk_42_method_149_code_51 : decode jdk_42_method_149_code 51 = .ok (.aload_n 0, 1) := by decide +kernel
theorem own_d_jdk_42_method_149_code_52 : decode jdk_42_method_149_code 52 = .ok (.aload 5, 2) := by decide +kernel
theorem own_d_jdk_42_method_149_code_54 : decode jdk_42_method_149_code 54 = .ok (.putfield 9, 3) := by decide +kernel
theorem own_d_jdk_42_method_149_code_57 : decode jdk_42_method_149_code 57 = .ok (.return_, 1) := by decide +kernel
def Q_init_5 (Z : State) (o0 : Addr) (y1 : Int32) (h0 : Heap) (n0 : Nat) (v : Option Value) (h : Heap) (L : List Loc) : Prop := (∃ (b3_0 : Addr) (kb3_0 : ClassId), v = none ∧ Fr n0 L ∧ Keep h0 h [o0] ∧ n0 ≤ b3_0 ∧ h0.size ≤ b3_0 ∧ Fld Z h o0 "java/lang/String" "coder" "B" (.int (0 : Int32)) ∧ Fld Z h o0 "java/lang/String" "value" "[B" (.ref b3_0) ∧ Exa Z h b3_0 "[B" ∧ Arv Z h b3_0 kb3_0 .byte (1 : Int32) [(.int (y1.toInt8.toInt32))] (.int (0 : Int32)))
set_option maxRecDepth 65536 in
set_option maxHeartbeats 40000000 in
theorem rm_init_5 (l : Launch) (Z : State) (a0 : Array Value) (hw : ∀ d ∈ tables_1, d.before a0 Z = true) (ws : List Jvm.Cond) (o0 : Addr) (o1 : Addr) (y0 : Int32) (y1 : Int32) (kc0 : ClassId) (h0 : Heap) (n0 : Nat) (Z0 : n0 ≤ h0.size) (P0 : Sta Z h0 "java/lang/String" "COMPACT_STRINGS" "Z" (.int y0)) (P1 : Arv Z h0 o1 kc0 .char (1 : Int32) [(.int y1)] (.int (0 : Int32))) (P2 : Exa Z h0 o0 "java/lang/String") (P3 : Fld Z h0 o0 "java/lang/String" "coder" "B" (.int (0 : Int32))) (P4 : Fld Z h0 o0 "java/lang/String" "value" "[B" .null) (ge0p : n0 ≤ o0) (hb0 : ¬ (y0 = (0 : Int32))) (hb1 : ¬ ((255 : Int32) < y1)) (hb2 : (nar .byte (y1.toInt8.toInt32)) = (y1.toInt8.toInt32)) :
    MetFree l (⟨"java/lang/String", "<init>", "([CIILjava/lang/Void;)V"⟩ : MethodName) (head1 (Jvm.Cond.code (⟨"java/lang/String", "<init>", "([CIILjava/lang/Void;)V"⟩ : MethodName) jdk_42_method_149_code 6 none :: ws) ({ frames := 2, cells := 1, slots := 1, locals := 35 } : Room)) (fun aA U => aA = #[(.ref o0), (.ref o1), (.int (0 : Int32)), (.int (1 : Int32)), .null] ∧ Z.Warmed39 U.vm ∧ U.heap = h0) (fun _ _ _ _ _ => True) (fun _ U o U' => ∃ v L, o = .returned v ∧ Q_init_5 Z o0 y1 h0 n0 v U'.heap L ∧ FrameEnd U o U' L ({ frames := 2, cells := 1, slots := 1, locals := 35 } : Room).cells ({ frames := 2, cells := 1, slots := 1, locals := 35 } : Room).slots) := by
  refine MetFree.of_bodySF (plainFor_of_name own_pn_java_lang_String) hisR ?_
  intro p e s m args below meth c s₁ Bd hml0 hP hK
  obtain ⟨rfl, hZ, hh⟩ := hP
  have hx := Bd.exec
  have hby := Bd.bytes
  have hlk : meth.locks = false := BodyLoose.notSynchronized Bd
  have hml : c.maxLocals = 6 := hml0
  have hown : s.vm.findClass "java/lang/String" = some m.cls := findClass_of_methodNamed Bd.named
  have hnm := (name_of_methodNamed Bd.named Bd.method).1
  have X0 : Stand p l e ({ frames := 2, cells := 1, slots := 1, locals := 35 } : Room) s m #[(.ref o0), (.ref o1), (.int (0 : Int32)), (.int (1 : Int32)), .null] below meth c s₁ [] 0 0 := Stand.of_body Bd
  have e0 : s₁.heap = h0 := by rw [← hh, Bd.state]; rfl
  have N0 := Fr.nil n0
  have K0 : Keep h0 h0 [o0] := Keep.refl _ _
  show own_Go p e below (own_K s (Q_init_5 Z o0 y1 h0 n0) ({ frames := 2, cells := 1, slots := 1, locals := 35 } : Room).cells ({ frames := 2, cells := 1, slots := 1, locals := 35 } : Room).slots) (s₁.setTop (entryFrame m #[(.ref o0), (.ref o1), (.int (0 : Int32)), (.int (1 : Int32)), .null] 6))
  rw [(by first | (simp [entryFrame, mkF, argsToLocals, Value.category]; done) | rfl : entryFrame m #[(.ref o0), (.ref o1), (.int (0 : Int32)), (.int (1 : Int32)), .null] 6 = mkF m 0 #[.val (.ref o0), .val (.ref o1), .val (.int (0 : Int32)), .val (.int (1 : Int32)), .val .null, .unset] [])]
  show own_Go p e below _ (s₁.setTop (mkF m 0 #[.val (.ref o0), .val (.ref o1), .val (.int (0 : Int32)), .val (.int (1 : Int32)), .val .null, .unset] []))
  refine own_go (fun _ hr => XS.aloadN X0.here hx rfl (hb hby own_d_jdk_42_method_149_code_0) rfl rfl hr) ?_
  show own_Go p e below _ (s₁.setTop (mkF m 1 #[.val (.ref o0), .val (.ref o1), .val (.int (0 : Int32)), .val (.int (1 : Int32)), .val .null, .unset] [(.ref o0)]))
  obtain ⟨T1, X1, e1, st1⟩ := initO X0 hx hZ hown (hw _ (own_m 15 rfl)) (hw _ (own_m 16 rfl)) (hw _ (own_m 17 rfl)) e0 (g := (mkF m 1 #[.val (.ref o0), .val (.ref o1), .val (.int (0 : Int32)), .val (.int (1 : Int32)), .val .null, .unset] [(.ref o0)])) rfl (by rw [hml]; rfl) rfl (hb hby own_d_jdk_42_method_149_code_1) (by decide) (W := 0) (by show 2 * 0 + _ ≤ _; exact Nat.le_of_eq rfl) (by decide)
  refine own_go st1 ?_
  show own_Go p e below _ (T1.setTop (mkF m 4 #[.val (.ref o0), .val (.ref o1), .val (.int (0 : Int32)), .val (.int (1 : Int32)), .val .null, .unset] []))
  refine own_go (fun _ hr => XS.iloadN X1.here hx rfl (hb hby own_d_jdk_42_method_149_code_4) rfl (XS.ifYes X1.here hx rfl (pc0 := 5) (pc' := 27) rfl (hb hby own_d_jdk_42_method_149_code_5) rfl ((if0 _ _).trans (feq (by decide)).2) (by decide) (by decide) hr)) ?_
  show own_Go p e below _ (T1.setTop (mkF m 27 #[.val (.ref o0), .val (.ref o1), .val (.int (0 : Int32)), .val (.int (1 : Int32)), .val .null, .unset] []))
  obtain ⟨T2, X2, e2, st2⟩ := getS2 X1 hx hZ hown (host := "") (Or.inl (hw _ (own_m 44 rfl))) Via.refl e1 P0 (g := (mkF m 27 #[.val (.ref o0), .val (.ref o1), .val (.int (0 : Int32)), .val (.int (1 : Int32)), .val .null, .unset] [])) rfl (hb hby own_d_jdk_42_method_149_code_27)
  refine own_go st2 ?_
  show own_Go p e below _ (T2.setTop (mkF m 30 #[.val (.ref o0), .val (.ref o1), .val (.int (0 : Int32)), .val (.int (1 : Int32)), .val .null, .unset] [(.int y0)]))
  refine own_go (fun _ hr => XS.ifNo X2.here hx rfl (hb hby own_d_jdk_42_method_149_code_30) rfl ((if0 _ _).trans (feq hb0).1) hr) ?_
  show own_Go p e below _ (T2.setTop (mkF m 33 #[.val (.ref o0), .val (.ref o1), .val (.int (0 : Int32)), .val (.int (1 : Int32)), .val .null, .unset] []))
  refine own_go (fun _ hr => XS.aloadN X2.here hx rfl (hb hby own_d_jdk_42_method_149_code_33) rfl rfl (XS.iloadN X2.here hx rfl (hb hby own_d_jdk_42_method_149_code_34) rfl (XS.iloadN X2.here hx rfl (hb hby own_d_jdk_42_method_149_code_35) rfl hr))) ?_
  show own_Go p e below _ (T2.setTop (mkF m 36 #[.val (.ref o0), .val (.ref o1), .val (.int (0 : Int32)), .val (.int (1 : Int32)), .val .null, .unset] [(.int (1 : Int32)), (.int (0 : Int32)), (.ref o1)]))
  refine own_cs X2 hx hZ hown (hw _ (own_m 45 rfl)) (hw _ (own_m 46 rfl)) (hw _ (own_m 47 rfl)) (hw _ (own_m 48 rfl)) (by decide) (rm := { frames := 1, cells := 1, slots := 1, locals := 18 }) (rm_compress_3 l Z a0 hw [] o1 y1 kc0 h0 n0 Z0 P1 hb1 hb2) (by decide) (W := 0) (by decide) (by decide) (by decide) e2 (by rw [hml]; rfl) (argsL := [(.ref o1), (.int (0 : Int32)), (.int (1 : Int32))]) (lenOf own_pd3 rfl) (rest := []) rfl rfl (Nat.le_of_eq rfl) (hb hby own_d_jdk_42_method_149_code_36) ?_
  intro _ T3 L3 X3 hQ3
  obtain ⟨b3_0, kb3_0, rfl, N3q, K3, ge3_0, sz3_0, f3_0, f3_1⟩ := hQ3
  have N3 := Fr.app N0 N3q
  have sz4 : h0.size ≤ b3_0 := Nat.le_trans K0.1 sz3_0
  show own_Go p e below _ (T3.setTop (mkF m 39 #[.val (.ref o0), .val (.ref o1), .val (.int (0 : Int32)), .val (.int (1 : Int32)), .val .null, .unset] [(.ref b3_0)]))
  refine own_go (fun _ hr => XS.astore X3.here hx rfl (hb hby own_d_jdk_42_method_149_code_39) rfl rfl (l' := #[.val (.ref o0), .val (.ref o1), .val (.int (0 : Int32)), .val (.int (1 : Int32)), .val .null, .val (.ref b3_0)]) rfl (XS.aloadN X3.here hx rfl (hb hby own_d_jdk_42_method_149_code_41) rfl rfl (XS.aload X3.here hx rfl (hb hby own_d_jdk_42_method_149_code_42) rfl rfl (XS.iloadN X3.here hx rfl (hb hby own_d_jdk_42_method_149_code_44) rfl hr)))) ?_
  show own_Go p e below _ (T3.setTop (mkF m 45 #[.val (.ref o0), .val (.ref o1), .val (.int (0 : Int32)), .val (.int (1 : Int32)), .val .null, .val (.ref b3_0)] [(.int (1 : Int32)), (.ref b3_0), (.ref o0)]))
  have Z6 := (Nat.le_trans Z0 K3.1)
  refine own_cs X3 hx hZ hown (hw _ (own_m 52 rfl)) (hw _ (own_m 53 rfl)) (hw _ (own_m 47 rfl)) (hw _ (own_m 54 rfl)) (by decide) (rm := { frames := 0, cells := 0, slots := 0, locals := 0 }) (rm_coderFromArrayLen_4 l Z a0 hw [] b3_0 (y1.toInt8.toInt32) kb3_0 T3.heap n0 Z6 f3_1) (by decide) (W := 1) (by decide) (by decide) (by decide) rfl (by rw [hml]; rfl) (argsL := [(.ref b3_0), (.int (1 : Int32))]) (lenOf own_pd4 rfl) (rest := [(.ref o0)]) rfl rfl (Nat.le_of_eq rfl) (hb hby own_d_jdk_42_method_149_code_45) ?_
  intro _ T5 L5 X5 hQ5
  obtain ⟨rfl, N5q, e5⟩ := hQ5
  have N5 := Fr.app N3 N5q
  show own_Go p e below _ (T5.setTop (mkF m 48 #[.val (.ref o0), .val (.ref o1), .val (.int (0 : Int32)), .val (.int (1 : Int32)), .val .null, .val (.ref b3_0)] [(.int (0 : Int32)), (.ref o0)]))
  have f7 := (P2.keep K3)
  have f8 := (P3.keep K3 nin0)
  obtain ⟨T9, h9, X9, e9, W9, st9⟩ := putFN X5 hx hZ hown (hw _ (own_m 25 rfl)) Via.refl e5 f8 f7 (Or.inr ⟨(hw _ (own_m 21 rfl)), rfl, hnm⟩) (hw _ (own_m 5 rfl)) (ty := .byte) (v' := .int (0 : Int32)) (by decide) rfl (by decide) (g := (mkF m 48 #[.val (.ref o0), .val (.ref o1), .val (.int (0 : Int32)), .val (.int (1 : Int32)), .val .null, .val (.ref b3_0)] [(.int (0 : Int32)), (.ref o0)])) rfl rfl (hb hby own_d_jdk_42_method_149_code_48)
  refine own_go st9 ?_
  have f10 := f8.same W9
  have N11 := Fr.snoc X9 N5 ge0p
  show own_Go p e below _ (T9.setTop (mkF m 51 #[.val (.ref o0), .val (.ref o1), .val (.int (0 : Int32)), .val (.int (1 : Int32)), .val .null, .val (.ref b3_0)] []))
  refine own_go (fun _ hr => XS.aloadN X9.here hx rfl (hb hby own_d_jdk_42_method_149_code_51) rfl rfl (XS.aload X9.here hx rfl (hb hby own_d_jdk_42_method_149_code_52) rfl rfl hr)) ?_
  show own_Go p e below _ (T9.setTop (mkF m 54 #[.val (.ref o0), .val (.ref o1), .val (.int (0 : Int32)), .val (.int (1 : Int32)), .val .null, .val (.ref b3_0)] [(.ref b3_0), (.ref o0)]))
  have f12 := (f7.wr W9)
  have f13 := ((P4.keep K3 nin0).other W9 (Or.inr (slot_ne (Or.inr (hw _ (own_m 20 rfl))) (Or.inr (hw _ (own_m 21 rfl))) (by decide) (t := (.array .byte)) (t' := .byte) (by decide) (by decide))))
  obtain ⟨T14, h14, X14, e14, W14, st14⟩ := putF X9 hx hZ hown (host := "") (Or.inl (hw _ (own_m 24 rfl))) Via.refl e9 f13 f12 (Or.inr ⟨(hw _ (own_m 20 rfl)), rfl, hnm⟩) (hw _ (own_m 5 rfl)) (ty := (.array .byte)) (by decide) rfl rfl (g := (mkF m 54 #[.val (.ref o0), .val (.ref o1), .val (.int (0 : Int32)), .val (.int (1 : Int32)), .val .null, .val (.ref b3_0)] [(.ref b3_0), (.ref o0)])) rfl rfl (hb hby own_d_jdk_42_method_149_code_54)
  refine own_go st14 ?_
  have f15 := f13.same W14
  have N16 := Fr.snoc X14 N11 ge0p
  show own_Go p e below _ (T14.setTop (mkF m 57 #[.val (.ref o0), .val (.ref o1), .val (.int (0 : Int32)), .val (.int (1 : Int32)), .val .null, .val (.ref b3_0)] []))
  have f17 := (f10.other W14 (Or.inr (slot_ne (Or.inr (hw _ (own_m 21 rfl))) (Or.inr (hw _ (own_m 20 rfl))) (by decide) (t := .byte) (t' := (.array .byte)) (by decide) (by decide))))
  have f18 := ((f3_0.wr W9).wr W14)
  have f19 := ((f3_1.other W9 (Ne.symm (Nat.ne_of_lt (Nat.lt_of_lt_of_le P2.lt sz3_0)))).other W14 (Ne.symm (Nat.ne_of_lt (Nat.lt_of_lt_of_le P2.lt sz3_0))))
  have K20 := (((K0.trans K3 all0).wr W9 (Or.inl (List.mem_of_getElem? (i := 0) rfl))).wr W14 (Or.inl (List.mem_of_getElem? (i := 0) rfl)))
  exact own_ret0 X14 hx hlk Bd.returns (hb hby own_d_jdk_42_method_149_code_57) (by decide) (by decide) (by rw [e14]; exact ⟨b3_0, kb3_0, rfl, N16, K20, ge3_0, sz4, f17, f15, f18, f19⟩)
def Q_init_6 (Z : State) (o0 : Addr) (y0 : Int32) (h0 : Heap) (n0 : Nat) (v : Option Value) (h : Heap) (L : List Loc) : Prop := (∃ (b1_0 : Addr) (kb1_0 : ClassId), v = none ∧ Fr n0 L ∧ Keep h0 h [o0] ∧ n0 ≤ b1_0 ∧ h0.size ≤ b1_0 ∧ Fld Z h o0 "java/lang/String" "coder" "B" (.int (0 : Int32)) ∧ Fld Z h o0 "java/lang/String" "value" "[B" (.ref b1_0) ∧ Exa Z h b1_0 "[B" ∧ Arv Z h b1_0 kb1_0 .byte (1 : Int32) [(.int (y0.toInt8.toInt32))] (.int (0 : Int32)))
set_option maxRecDepth 65536 in
set_option maxHeartbeats 40000000 in
theorem rm_init_6 (l : Launch) (Z : State) (a0 : Array Value) (hw : ∀ d ∈ tables_1, d.before a0 Z = true) (ws : List Jvm.Cond) (o0 : Addr) (o1 : Addr) (y0 : Int32) (kc0 : ClassId) (y1 : Int32) (h0 : Heap) (n0 : Nat) (Z0 : n0 ≤ h0.size) (P0 : Arv Z h0 o1 kc0 .char (1 : Int32) [(.int y0)] (.int (0 : Int32))) (P1 : Sta Z h0 "java/lang/String" "COMPACT_STRINGS" "Z" (.int y1)) (P2 : Exa Z h0 o0 "java/lang/String") (P3 : Fld Z h0 o0 "java/lang/String" "coder" "B" (.int (0 : Int32))) (P4 : Fld Z h0 o0 "java/lang/String" "value" "[B" .null) (ge0p : n0 ≤ o0) (hb0 : ¬ (y1 = (0 : Int32))) (hb1 : ¬ ((255 : Int32) < y0)) (hb2 : (nar .byte (y0.toInt8.toInt32)) = (y0.toInt8.toInt32)) :
    MetFree l (⟨"java/lang/String", "<init>", "([C)V"⟩ : MethodName) (head1 (Jvm.Cond.code (⟨"java/lang/String", "<init>", "([C)V"⟩ : MethodName) jdk_42_method_3_code 2 none :: ws) ({ frames := 3, cells := 1, slots := 1, locals := 52 } : Room)) (fun aA U => aA = #[(.ref o0), (.ref o1)] ∧ Z.Warmed39 U.vm ∧ U.heap = h0) (fun _ _ _ _ _ => True) (fun _ U o U' => ∃ v L, o = .returned v ∧ Q_init_6 Z o0 y0 h0 n0 v U'.heap L ∧ FrameEnd U o U' L ({ frames := 3, cells := 1, slots := 1, locals := 52 } : Room).cells ({ frames := 3, cells := 1, slots := 1, locals := 52 } : Room).slots) := by
  refine MetFree.of_bodySF (plainFor_of_name own_pn_java_lang_String) hisR ?_
  intro p e s m args below meth c s₁ Bd hml0 hP hK
  obtain ⟨rfl, hZ, hh⟩ := hP
  have hx := Bd.exec
  have hby := Bd.bytes
  have hlk : meth.locks = false := BodyLoose.notSynchronized Bd
  have hml : c.maxLocals = 2 := hml0
  have hown : s.vm.findClass "java/lang/String" = some m.cls := findClass_of_methodNamed Bd.named
  have hnm := (name_of_methodNamed Bd.named Bd.method).1
  have X0 : Stand p l e ({ frames := 3, cells := 1, slots := 1, locals := 52 } : Room) s m #[(.ref o0), (.ref o1)] below meth c s₁ [] 0 0 := Stand.of_body Bd
  have e0 : s₁.heap = h0 := by rw [← hh, Bd.state]; rfl
  have N0 := Fr.nil n0
  have K0 : Keep h0 h0 [o0] := Keep.refl _ _
  show own_Go p e below (own_K s (Q_init_6 Z o0 y0 h0 n0) ({ frames := 3, cells := 1, slots := 1, locals := 52 } : Room).cells ({ frames := 3, cells := 1, slots := 1, locals := 52 } : Room).slots) (s₁.setTop (entryFrame m #[(.ref o0), (.ref o1)] 2))
  rw [(by first | (simp [entryFrame, mkF, argsToLocals, Value.category]; done) | rfl : entryFrame m #[(.ref o0), (.ref o1)] 2 = mkF m 0 #[.val (.ref o0), .val (.ref o1)] [])]
  show own_Go p e below _ (s₁.setTop (mkF m 0 #[.val (.ref o0), .val (.ref o1)] []))
  refine own_go (fun _ hr => XS.aloadN X0.here hx rfl (hb hby own_d_jdk_42_method_3_code_0) rfl rfl (XS.aloadN X0.here hx rfl (hb hby own_d_jdk_42_method_3_code_1) rfl rfl (XS.iconst X0.here hx rfl (hb hby own_d_jdk_42_method_3_code_2) (XS.aloadN X0.here hx rfl (hb hby own_d_jdk_42_method_3_code_3) rfl rfl (own_alen X0 hx hZ e0 P0 rfl rfl (hb hby own_d_jdk_42_method_3_code_4) (XS.aconstNull X0.here hx rfl (hb hby own_d_jdk_42_method_3_code_5) hr)))))) ?_
  show own_Go p e below _ (s₁.setTop (mkF m 6 #[.val (.ref o0), .val (.ref o1)] [.null, (.int (1 : Int32)), (.int (0 : Int32)), (.ref o1), (.ref o0)]))
  refine own_cp X0 hx hZ hown rfl (hw _ (own_m 11 rfl)) (hw _ (own_m 12 rfl)) (hw _ (own_m 6 rfl)) (hw _ (own_m 14 rfl)) (by decide) (rm := { frames := 2, cells := 1, slots := 1, locals := 35 }) (rm_init_5 l Z a0 hw [] o0 o1 y1 y0 kc0 h0 n0 Z0 P1 P0 P2 P3 P4 ge0p hb0 hb1 hb2) (by decide) (W := 0) (by decide) (by decide) (by decide) e0 (by rw [hml]; rfl) (argsL := [(.ref o1), (.int (0 : Int32)), (.int (1 : Int32)), .null]) (lenOf own_pd0 rfl) (rest := []) rfl rfl (Nat.le_of_eq rfl) (hb hby own_d_jdk_42_method_3_code_6) ?_
  intro _ T1 L1 X1 hQ1
  obtain ⟨b1_0, kb1_0, rfl, N1q, K1, ge1_0, sz1_0, f1_0, f1_1, f1_2, f1_3⟩ := hQ1
  have N1 := Fr.app N0 N1q
  have sz2 : h0.size ≤ b1_0 := Nat.le_trans K0.1 sz1_0
  show own_Go p e below _ (T1.setTop (mkF m 9 #[.val (.ref o0), .val (.ref o1)] []))
  have K3 := (K0.trans K1 (allS (Or.inl (List.mem_of_getElem? (i := 0) rfl)) all0))
  exact own_ret0 X1 hx hlk Bd.returns (hb hby own_d_jdk_42_method_3_code_9) (by decide) (by decide) (by exact ⟨b1_0, kb1_0, rfl, N1, K3, ge1_0, sz2, f1_0, f1_1, f1_2, f1_3⟩)
theorem own_d_method_2_code_51 : decode method_2_code 51 = .ok (.areturn, 1) := by decide +kernel
theorem own_d_method_2_code_52 : decode method_2_code 52 = .ok (.new 7, 3) := by decide +kernel
theorem own_d_method_2_code_55 : decode method_2_code 55 = .ok (.dup, 1) := by decide +kernel
theorem own_d_method_2_code_56 : decode method_2_code 56 = .ok (.iconst 2, 1) := by decide +kernel
theorem own_d_method_2_code_57 : decode method_2_code 57 = .ok (.newarray .char, 2) := by decide +kernel
theorem own_d_method_2_code_59 : decode method_2_code 59 = .ok (.dup, 1) := by decide +kernel
theorem own_d_method_2_code_60 : decode method_2_code 60 = .ok (.iconst 0, 1) := by decide +kernel
theorem own_d_method_2_code_61 : decode method_2_code 61 = .ok (.iload_n 2, 1) := by decide +kernel
theorem own_d_method_2_code_62 : decode method_2_code 62 = .ok (.castore, 1) := by decide +kernel
theorem own_d_method_2_code_63 : decode method_2_code 63 = .ok (.dup, 1) := by decide +kernel
theorem own_d_method_2_code_64 : decode method_2_code 64 = .ok (.iconst 1, 1) := by decide +kernel
theorem own_d_method_2_code_65 : decode method_2_code 65 = .ok (.iload_n 3, 1) := by decide +kernel
theorem own_d_method_2_code_66 : decode method_2_code 66 = .ok (.castore, 1) := by decide +kernel
theorem own_d_method_2_code_67 : decode method_2_code 67 = .ok (.invokespecial 9, 3) := by decide +kernel
def Q_compress_7 (Z : State) (o1 : Addr) (y0 : Int32) (y1 : Int32) (kc1 : ClassId) (h0 : Heap) (n0 : Nat) (v : Option Value) (h : Heap) (L : List Loc) : Prop := (v = some (.int (2 : Int32)) ∧ Fr n0 L ∧ Keep h0 h [o1] ∧ Arv Z h o1 kc1 .byte (2 : Int32) [(.int (y0.toInt8.toInt32)), (.int (y1.toInt8.toInt32))] (.int (0 : Int32)))
set_option maxRecDepth 65536 in
set_option maxHeartbeats 40000000 in
theorem rm_compress_7 (l : Launch) (Z : State) (a0 : Array Value) (hw : ∀ d ∈ tables_1, d.before a0 Z = true) (ws : List Jvm.Cond) (o0 : Addr) (o1 : Addr) (y0 : Int32) (y1 : Int32) (kc0 : ClassId) (kc1 : ClassId) (h0 : Heap) (n0 : Nat) (Z0 : n0 ≤ h0.size) (P0 : Arv Z h0 o0 kc0 .char (2 : Int32) [(.int y0), (.int y1)] (.int (0 : Int32))) (P1 : Arv Z h0 o1 kc1 .byte (2 : Int32) [(.int (0 : Int32)), (.int (0 : Int32))] (.int (0 : Int32))) (ne0p : o0 ≠ o1) (ge0p : n0 ≤ o1) (hb0 : ¬ ((255 : Int32) < y0)) (hb1 : (nar .byte (y0.toInt8.toInt32)) = (y0.toInt8.toInt32)) (hb2 : ¬ ((255 : Int32) < y1)) (hb3 : (nar .byte (y1.toInt8.toInt32)) = (y1.toInt8.toInt32)) :
    MetFree l (⟨"java/lang/StringUTF16", "compress", "([CI[BII)I"⟩ : MethodName) (head1 (Jvm.Cond.code (⟨"java/lang/StringUTF16", "compress", "([CI[BII)I"⟩ : MethodName) jdk_52_method_21_code 7 (some .int) :: ws) ({ frames := 0, cells := 0, slots := 0, locals := 0 } : Room)) (fun aA U => aA = #[(.ref o0), (.int (0 : Int32)), (.ref o1), (.int (0 : Int32)), (.int (2 : Int32))] ∧ Z.Warmed39 U.vm ∧ U.heap = h0) (fun _ _ _ _ _ => True) (fun _ U o U' => ∃ v L, o = .returned v ∧ Q_compress_7 Z o1 y0 y1 kc1 h0 n0 v U'.heap L ∧ FrameEnd U o U' L ({ frames := 0, cells := 0, slots := 0, locals := 0 } : Room).cells ({ frames := 0, cells := 0, slots := 0, locals := 0 } : Room).slots) := by
  refine MetFree.of_bodySF (plainFor_of_name own_pn_java_lang_StringUTF16) hisR ?_
  intro p e s m args below meth c s₁ Bd hml0 hP hK
  obtain ⟨rfl, hZ, hh⟩ := hP
  have hx := Bd.exec
  have hby := Bd.bytes
  have hlk : meth.locks = false := BodyLoose.notSynchronized Bd
  have hml : c.maxLocals = 7 := hml0
  have hown : s.vm.findClass "java/lang/StringUTF16" = some m.cls := findClass_of_methodNamed Bd.named
  have hnm := (name_of_methodNamed Bd.named Bd.method).1
  have X0 : Stand p l e ({ frames := 0, cells := 0, slots := 0, locals := 0 } : Room) s m #[(.ref o0), (.int (0 : Int32)), (.ref o1), (.int (0 : Int32)), (.int (2 : Int32))] below meth c s₁ [] 0 0 := Stand.of_body Bd
  have e0 : s₁.heap = h0 := by rw [← hh, Bd.state]; rfl
  have N0 := Fr.nil n0
  have K0 : Keep h0 h0 [o1] := Keep.refl _ _
  show own_Go p e below (own_K s (Q_compress_7 Z o1 y0 y1 kc1 h0 n0) ({ frames := 0, cells := 0, slots := 0, locals := 0 } : Room).cells ({ frames := 0, cells := 0, slots := 0, locals := 0 } : Room).slots) (s₁.setTop (entryFrame m #[(.ref o0), (.int (0 : Int32)), (.ref o1), (.int (0 : Int32)), (.int (2 : Int32))] 7))
  rw [(by first | (simp [entryFrame, mkF, argsToLocals, Value.category]; done) | rfl : entryFrame m #[(.ref o0), (.int (0 : Int32)), (.ref o1), (.int (0 : Int32)), (.int (2 : Int32))] 7 = mkF m 0 #[.val (.ref o0), .val (.int (0 : Int32)), .val (.ref o1), .val (.int (0 : Int32)), .val (.int (2 : Int32)), .unset, .unset] [])]
  show own_Go p e below _ (s₁.setTop (mkF m 0 #[.val (.ref o0), .val (.int (0 : Int32)), .val (.ref o1), .val (.int (0 : Int32)), .val (.int (2 : Int32)), .unset, .unset] []))
  refine own_go (fun _ hr => XS.iconst X0.here hx rfl (hb hby own_d_jdk_52_method_21_code_0) (XS.istore X0.here hx rfl (hb hby own_d_jdk_52_method_21_code_1) rfl (l' := #[.val (.ref o0), .val (.int (0 : Int32)), .val (.ref o1), .val (.int (0 : Int32)), .val (.int (2 : Int32)), .val (.int (0 : Int32)), .unset]) rfl (XS.iload X0.here hx rfl (hb hby own_d_jdk_52_method_21_code_3) rfl (XS.iload X0.here hx rfl (hb hby own_d_jdk_52_method_21_code_5) rfl (XS.icmpNo X0.here hx rfl (hb hby own_d_jdk_52_method_21_code_7) rfl (tlt (by decide)).2.1 (XS.aloadN X0.here hx rfl (hb hby own_d_jdk_52_method_21_code_10) rfl rfl (XS.iloadN X0.here hx rfl (hb hby own_d_jdk_52_method_21_code_11) rfl (own_caload X0 hx hZ e0 P0 (0 : Int32) (.int y0) ⟨by decide, by decide⟩ rfl rfl rfl (hb hby own_d_jdk_52_method_21_code_12) (XS.istore X0.here hx rfl (hb hby own_d_jdk_52_method_21_code_13) rfl (l' := #[.val (.ref o0), .val (.int (0 : Int32)), .val (.ref o1), .val (.int (0 : Int32)), .val (.int (2 : Int32)), .val (.int (0 : Int32)), .val (.int y0)]) rfl (XS.iload X0.here hx rfl (hb hby own_d_jdk_52_method_21_code_15) rfl hr)))))))))) ?_
  show own_Go p e below _ (s₁.setTop (mkF m 17 #[.val (.ref o0), .val (.int (0 : Int32)), .val (.ref o1), .val (.int (0 : Int32)), .val (.int (2 : Int32)), .val (.int (0 : Int32)), .val (.int y0)] [(.int y0)]))
  refine own_go (fun _ hr => XS.sipush X0.here hx rfl (hb hby own_d_jdk_52_method_21_code_17) hr) ?_
  show own_Go p e below _ (s₁.setTop (mkF m 20 #[.val (.ref o0), .val (.int (0 : Int32)), .val (.ref o1), .val (.int (0 : Int32)), .val (.int (2 : Int32)), .val (.int (0 : Int32)), .val (.int y0)] [(.int (255 : Int32)), (.int y0)]))
  refine own_go (fun _ hr => XS.icmpYes X0.here hx rfl (pc0 := 20) (pc' := 26) rfl (hb hby own_d_jdk_52_method_21_code_20) rfl (flt hb0).2.2.2 (by decide) (by decide) hr) ?_
  show own_Go p e below _ (s₁.setTop (mkF m 26 #[.val (.ref o0), .val (.int (0 : Int32)), .val (.ref o1), .val (.int (0 : Int32)), .val (.int (2 : Int32)), .val (.int (0 : Int32)), .val (.int y0)] []))
  refine own_go (fun _ hr => XS.aloadN X0.here hx rfl (hb hby own_d_jdk_52_method_21_code_26) rfl rfl (XS.iloadN X0.here hx rfl (hb hby own_d_jdk_52_method_21_code_27) rfl (XS.iload X0.here hx rfl (hb hby own_d_jdk_52_method_21_code_28) rfl (XS.i2b X0.here hx rfl (hb hby own_d_jdk_52_method_21_code_30) rfl hr)))) ?_
  show own_Go p e below _ (s₁.setTop (mkF m 31 #[.val (.ref o0), .val (.int (0 : Int32)), .val (.ref o1), .val (.int (0 : Int32)), .val (.int (2 : Int32)), .val (.int (0 : Int32)), .val (.int y0)] [(.int (y0.toInt8.toInt32)), (.int (0 : Int32)), (.ref o1)]))
  refine own_stB X0 hx hZ e0 P1 (0 : Int32) (y0.toInt8.toInt32) (y0.toInt8.toInt32) 0 ⟨by decide, by decide⟩ rfl (Nat.le_of_ble_eq_true rfl) hb1 [(.int (y0.toInt8.toInt32)), (.int (0 : Int32))] rfl N0 ge0p (hb hby own_d_jdk_52_method_21_code_31) ?_
  intro T1 h1 L1 X1 e1 W1 N1 f1
  show own_Go p e below _ (T1.setTop (mkF m 32 #[.val (.ref o0), .val (.int (0 : Int32)), .val (.ref o1), .val (.int (0 : Int32)), .val (.int (2 : Int32)), .val (.int (0 : Int32)), .val (.int y0)] []))
  have f2 := (P0.other W1 ne0p)
  refine own_go (fun _ hr => XS.iinc X1.here hx rfl (hb hby own_d_jdk_52_method_21_code_32) rfl (l' := #[.val (.ref o0), .val (.int (1 : Int32)), .val (.ref o1), .val (.int (0 : Int32)), .val (.int (2 : Int32)), .val (.int (0 : Int32)), .val (.int y0)]) rfl (XS.iinc X1.here hx rfl (hb hby own_d_jdk_52_method_21_code_35) rfl (l' := #[.val (.ref o0), .val (.int (1 : Int32)), .val (.ref o1), .val (.int (1 : Int32)), .val (.int (2 : Int32)), .val (.int (0 : Int32)), .val (.int y0)]) rfl (XS.iinc X1.here hx rfl (hb hby own_d_jdk_52_method_21_code_38) rfl (l' := #[.val (.ref o0), .val (.int (1 : Int32)), .val (.ref o1), .val (.int (1 : Int32)), .val (.int (2 : Int32)), .val (.int (1 : Int32)), .val (.int y0)]) rfl (XS.goto X1.here hx rfl (pc0 := 41) (pc' := 3) rfl (hb hby own_d_jdk_52_method_21_code_41) (by decide) (by decide) (XS.iload X1.here hx rfl (hb hby own_d_jdk_52_method_21_code_3) rfl (XS.iload X1.here hx rfl (hb hby own_d_jdk_52_method_21_code_5) rfl (XS.icmpNo X1.here hx rfl (hb hby own_d_jdk_52_method_21_code_7) rfl (tlt (by decide)).2.1 (XS.aloadN X1.here hx rfl (hb hby own_d_jdk_52_method_21_code_10) rfl rfl (XS.iloadN X1.here hx rfl (hb hby own_d_jdk_52_method_21_code_11) rfl (own_caload X1 hx hZ e1 f2 (1 : Int32) (.int y1) ⟨by decide, by decide⟩ rfl rfl rfl (hb hby own_d_jdk_52_method_21_code_12) hr)))))))))) ?_
  show own_Go p e below _ (T1.setTop (mkF m 13 #[.val (.ref o0), .val (.int (1 : Int32)), .val (.ref o1), .val (.int (1 : Int32)), .val (.int (2 : Int32)), .val (.int (1 : Int32)), .val (.int y0)] [(.int y1)]))
  refine own_go (fun _ hr => XS.istore X1.here hx rfl (hb hby own_d_jdk_52_method_21_code_13) rfl (l' := #[.val (.ref o0), .val (.int (1 : Int32)), .val (.ref o1), .val (.int (1 : Int32)), .val (.int (2 : Int32)), .val (.int (1 : Int32)), .val (.int y1)]) rfl (XS.iload X1.here hx rfl (hb hby own_d_jdk_52_method_21_code_15) rfl (XS.sipush X1.here hx rfl (hb hby own_d_jdk_52_method_21_code_17) hr))) ?_
  show own_Go p e below _ (T1.setTop (mkF m 20 #[.val (.ref o0), .val (.int (1 : Int32)), .val (.ref o1), .val (.int (1 : Int32)), .val (.int (2 : Int32)), .val (.int (1 : Int32)), .val (.int y1)] [(.int (255 : Int32)), (.int y1)]))
  refine own_go (fun _ hr => XS.icmpYes X1.here hx rfl (pc0 := 20) (pc' := 26) rfl (hb hby own_d_jdk_52_method_21_code_20) rfl (flt hb2).2.2.2 (by decide) (by decide) hr) ?_
  show own_Go p e below _ (T1.setTop (mkF m 26 #[.val (.ref o0), .val (.int (1 : Int32)), .val (.ref o1), .val (.int (1 : Int32)), .val (.int (2 : Int32)), .val (.int (1 : Int32)), .val (.int y1)] []))
  refine own_go (fun _ hr => XS.aloadN X1.here hx rfl (hb hby own_d_jdk_52_method_21_code_26) rfl rfl (XS.iloadN X1.here hx rfl (hb hby own_d_jdk_52_method_21_code_27) rfl (XS.iload X1.here hx rfl (hb hby own_d_jdk_52_method_21_code_28) rfl (XS.i2b X1.here hx rfl (hb hby own_d_jdk_52_method_21_code_30) rfl hr)))) ?_
  show own_Go p e below _ (T1.setTop (mkF m 31 #[.val (.ref o0), .val (.int (1 : Int32)), .val (.ref o1), .val (.int (1 : Int32)), .val (.int (2 : Int32)), .val (.int (1 : Int32)), .val (.int y1)] [(.int (y1.toInt8.toInt32)), (.int (1 : Int32)), (.ref o1)]))
  refine own_stB X1 hx hZ e1 f1 (1 : Int32) (y1.toInt8.toInt32) (y1.toInt8.toInt32) 1 ⟨by decide, by decide⟩ rfl (Nat.le_of_ble_eq_true rfl) hb3 [(.int (y0.toInt8.toInt32)), (.int (y1.toInt8.toInt32))] rfl N1 ge0p (hb hby own_d_jdk_52_method_21_code_31) ?_
  intro T3 h3 L3 X3 e3 W3 N3 f3
  show own_Go p e below _ (T3.setTop (mkF m 32 #[.val (.ref o0), .val (.int (1 : Int32)), .val (.ref o1), .val (.int (1 : Int32)), .val (.int (2 : Int32)), .val (.int (1 : Int32)), .val (.int y1)] []))
  refine own_go (fun _ hr => XS.iinc X3.here hx rfl (hb hby own_d_jdk_52_method_21_code_32) rfl (l' := #[.val (.ref o0), .val (.int (2 : Int32)), .val (.ref o1), .val (.int (1 : Int32)), .val (.int (2 : Int32)), .val (.int (1 : Int32)), .val (.int y1)]) rfl (XS.iinc X3.here hx rfl (hb hby own_d_jdk_52_method_21_code_35) rfl (l' := #[.val (.ref o0), .val (.int (2 : Int32)), .val (.ref o1), .val (.int (2 : Int32)), .val (.int (2 : Int32)), .val (.int (1 : Int32)), .val (.int y1)]) rfl (XS.iinc X3.here hx rfl (hb hby own_d_jdk_52_method_21_code_38) rfl (l' := #[.val (.ref o0), .val (.int (2 : Int32)), .val (.ref o1), .val (.int (2 : Int32)), .val (.int (2 : Int32)), .val (.int (2 : Int32)), .val (.int y1)]) rfl (XS.goto X3.here hx rfl (pc0 := 41) (pc' := 3) rfl (hb hby own_d_jdk_52_method_21_code_41) (by decide) (by decide) (XS.iload X3.here hx rfl (hb hby own_d_jdk_52_method_21_code_3) rfl (XS.iload X3.here hx rfl (hb hby own_d_jdk_52_method_21_code_5) rfl (XS.icmpYes X3.here hx rfl (pc0 := 7) (pc' := 44) rfl (hb hby own_d_jdk_52_method_21_code_7) rfl (flt (by decide)).2.1 (by decide) (by decide) (XS.iload X3.here hx rfl (hb hby own_d_jdk_52_method_21_code_44) rfl hr)))))))) ?_
  show own_Go p e below _ (T3.setTop (mkF m 46 #[.val (.ref o0), .val (.int (2 : Int32)), .val (.ref o1), .val (.int (2 : Int32)), .val (.int (2 : Int32)), .val (.int (2 : Int32)), .val (.int y1)] [(.int (2 : Int32))]))
  have K4 := ((K0.wr W1 (Or.inl (List.mem_of_getElem? (i := 0) rfl))).wr W3 (Or.inl (List.mem_of_getElem? (i := 0) rfl)))
  exact own_retI X3 hx hlk Bd.returns (hb hby own_d_jdk_52_method_21_code_46) (by decide) (by decide) (by rw [e3]; exact ⟨rfl, N3, K4, f3⟩)
def Q_compress_8 (Z : State) (y0 : Int32) (y1 : Int32) (h0 : Heap) (n0 : Nat) (v : Option Value) (h : Heap) (L : List Loc) : Prop := (∃ (b1 : Addr) (k1 : ClassId), v = some (.ref b1) ∧ Fr n0 L ∧ Keep h0 h [] ∧ n0 ≤ b1 ∧ h0.size ≤ b1 ∧ Exa Z h b1 "[B" ∧ Arv Z h b1 k1 .byte (2 : Int32) [(.int (y0.toInt8.toInt32)), (.int (y1.toInt8.toInt32))] (.int (0 : Int32)))
set_option maxRecDepth 65536 in
set_option maxHeartbeats 40000000 in
theorem rm_compress_8 (l : Launch) (Z : State) (a0 : Array Value) (hw : ∀ d ∈ tables_1, d.before a0 Z = true) (ws : List Jvm.Cond) (o0 : Addr) (y0 : Int32) (y1 : Int32) (kc0 : ClassId) (h0 : Heap) (n0 : Nat) (Z0 : n0 ≤ h0.size) (P0 : Exa Z h0 o0 "[C") (P1 : Arv Z h0 o0 kc0 .char (2 : Int32) [(.int y0), (.int y1)] (.int (0 : Int32))) (hb0 : ¬ ((255 : Int32) < y0)) (hb1 : (nar .byte (y0.toInt8.toInt32)) = (y0.toInt8.toInt32)) (hb2 : ¬ ((255 : Int32) < y1)) (hb3 : (nar .byte (y1.toInt8.toInt32)) = (y1.toInt8.toInt32)) :
    MetFree l (⟨"java/lang/StringUTF16", "compress", "([CII)[B"⟩ : MethodName) (head1 (Jvm.Cond.code (⟨"java/lang/StringUTF16", "compress", "([CII)[B"⟩ : MethodName) jdk_52_method_16_code 6 (some (.array .byte)) :: ws) ({ frames := 1, cells := 1, slots := 2, locals := 18 } : Room)) (fun aA U => aA = #[(.ref o0), (.int (0 : Int32)), (.int (2 : Int32))] ∧ Z.Warmed39 U.vm ∧ U.heap = h0) (fun _ _ _ _ _ => True) (fun _ U o U' => ∃ v L, o = .returned v ∧ Q_compress_8 Z y0 y1 h0 n0 v U'.heap L ∧ FrameEnd U o U' L ({ frames := 1, cells := 1, slots := 2, locals := 18 } : Room).cells ({ frames := 1, cells := 1, slots := 2, locals := 18 } : Room).slots) := by
  refine MetFree.of_bodySF (plainFor_of_name own_pn_java_lang_StringUTF16) hisR ?_
  intro p e s m args below meth c s₁ Bd hml0 hP hK
  obtain ⟨rfl, hZ, hh⟩ := hP
  have hx := Bd.exec
  have hby := Bd.bytes
  have hlk : meth.locks = false := BodyLoose.notSynchronized Bd
  have hml : c.maxLocals = 6 := hml0
  have hown : s.vm.findClass "java/lang/StringUTF16" = some m.cls := findClass_of_methodNamed Bd.named
  have hnm := (name_of_methodNamed Bd.named Bd.method).1
  have X0 : Stand p l e ({ frames := 1, cells := 1, slots := 2, locals := 18 } : Room) s m #[(.ref o0), (.int (0 : Int32)), (.int (2 : Int32))] below meth c s₁ [] 0 0 := Stand.of_body Bd
  have e0 : s₁.heap = h0 := by rw [← hh, Bd.state]; rfl
  have N0 := Fr.nil n0
  have K0 : Keep h0 h0 [] := Keep.refl _ _
  show own_Go p e below (own_K s (Q_compress_8 Z y0 y1 h0 n0) ({ frames := 1, cells := 1, slots := 2, locals := 18 } : Room).cells ({ frames := 1, cells := 1, slots := 2, locals := 18 } : Room).slots) (s₁.setTop (entryFrame m #[(.ref o0), (.int (0 : Int32)), (.int (2 : Int32))] 6))
  rw [(by first | (simp [entryFrame, mkF, argsToLocals, Value.category]; done) | rfl : entryFrame m #[(.ref o0), (.int (0 : Int32)), (.int (2 : Int32))] 6 = mkF m 0 #[.val (.ref o0), .val (.int (0 : Int32)), .val (.int (2 : Int32)), .unset, .unset, .unset] [])]
  show own_Go p e below _ (s₁.setTop (mkF m 0 #[.val (.ref o0), .val (.int (0 : Int32)), .val (.int (2 : Int32)), .unset, .unset, .unset] []))
  refine own_go (fun _ hr => XS.iloadN X0.here hx rfl (hb hby own_d_jdk_52_method_16_code_0) rfl hr) ?_
  show own_Go p e below _ (s₁.setTop (mkF m 1 #[.val (.ref o0), .val (.int (0 : Int32)), .val (.int (2 : Int32)), .unset, .unset, .unset] [(.int (2 : Int32))]))
  obtain ⟨T1, h1, k1, X1, e1, E1, A1, EA1, st1⟩ := newPE X0 hx hZ (hw _ (own_m 19 rfl)) e0 (g := (mkF m 1 #[.val (.ref o0), .val (.int (0 : Int32)), .val (.int (2 : Int32)), .unset, .unset, .unset] [(.int (2 : Int32))])) rfl (hb hby own_d_jdk_52_method_16_code_1) rfl (by decide) (cap := 2) (by decide) (by decide) (by decide) (by decide) (ad := "[B") (by decide)
  obtain ⟨b1, g1⟩ : ∃ z, z = h0.size := ⟨_, rfl⟩
  rw [← g1] at A1 EA1 st1
  have ge2 : n0 ≤ b1 := Nat.le_trans Z0 (Nat.le_of_eq g1.symm)
  have sz3 : h0.size ≤ b1 := Nat.le_trans K0.1 (Nat.le_of_eq g1.symm)
  refine own_go st1 ?_
  have f4 : Arv Z h1 b1 k1 .byte (2 : Int32) [(.int (0 : Int32)), (.int (0 : Int32))] (.int (0 : Int32)) := (Arv.new A1 (by decide)).pad (pad_rep [] (.int (0 : Int32)) 2)
  show own_Go p e below _ (T1.setTop (mkF m 3 #[.val (.ref o0), .val (.int (0 : Int32)), .val (.int (2 : Int32)), .unset, .unset, .unset] [(.ref b1)]))
  refine own_go (fun _ hr => XS.astoreN X1.here hx rfl (hb hby own_d_jdk_52_method_16_code_3) rfl rfl (l' := #[.val (.ref o0), .val (.int (0 : Int32)), .val (.int (2 : Int32)), .val (.ref b1), .unset, .unset]) rfl (XS.aloadN X1.here hx rfl (hb hby own_d_jdk_52_method_16_code_4) rfl rfl (XS.iloadN X1.here hx rfl (hb hby own_d_jdk_52_method_16_code_5) rfl (XS.aloadN X1.here hx rfl (hb hby own_d_jdk_52_method_16_code_6) rfl rfl (XS.iconst X1.here hx rfl (hb hby own_d_jdk_52_method_16_code_7) (XS.iloadN X1.here hx rfl (hb hby own_d_jdk_52_method_16_code_8) rfl hr)))))) ?_
  show own_Go p e below _ (T1.setTop (mkF m 9 #[.val (.ref o0), .val (.int (0 : Int32)), .val (.int (2 : Int32)), .val (.ref b1), .unset, .unset] [(.int (2 : Int32)), (.int (0 : Int32)), (.ref b1), (.int (0 : Int32)), (.ref o0)]))
  have f6 := (P1.ext E1)
  have Z7 := (Nat.le_trans Z0 E1.1)
  refine own_cs X1 hx hZ hown (hw _ (own_m 49 rfl)) (hw _ (own_m 50 rfl)) (hw _ (own_m 47 rfl)) (hw _ (own_m 51 rfl)) (by decide) (rm := { frames := 0, cells := 0, slots := 0, locals := 0 }) (rm_compress_7 l Z a0 hw [] o0 b1 y0 y1 kc0 k1 h1 n0 Z7 f6 f4 (Nat.ne_of_lt (Nat.lt_of_lt_of_le P0.lt (Nat.le_of_eq g1.symm))) ge2 hb0 hb1 hb2 hb3) (by decide) (W := 0) (by decide) (by decide) (by decide) e1 (by rw [hml]; rfl) (argsL := [(.ref o0), (.int (0 : Int32)), (.ref b1), (.int (0 : Int32)), (.int (2 : Int32))]) (lenOf own_pd2 rfl) (rest := []) rfl rfl (Nat.le_of_eq rfl) (hb hby own_d_jdk_52_method_16_code_9) ?_
  intro _ T5 L5 X5 hQ5
  obtain ⟨rfl, N5q, K5, f5_0⟩ := hQ5
  have N5 := Fr.app N0 N5q
  show own_Go p e below _ (T5.setTop (mkF m 12 #[.val (.ref o0), .val (.int (0 : Int32)), .val (.int (2 : Int32)), .val (.ref b1), .unset, .unset] [(.int (2 : Int32))]))
  refine own_go (fun _ hr => XS.istore X5.here hx rfl (hb hby own_d_jdk_52_method_16_code_12) rfl (l' := #[.val (.ref o0), .val (.int (0 : Int32)), .val (.int (2 : Int32)), .val (.ref b1), .val (.int (2 : Int32)), .unset]) rfl (XS.iload X5.here hx rfl (hb hby own_d_jdk_52_method_16_code_14) rfl (XS.iloadN X5.here hx rfl (hb hby own_d_jdk_52_method_16_code_16) rfl (XS.icmpYes X5.here hx rfl (pc0 := 17) (pc' := 57) rfl (hb hby own_d_jdk_52_method_16_code_17) rfl (teq (by decide)).1 (by decide) (by decide) (XS.aloadN X5.here hx rfl (hb hby own_d_jdk_52_method_16_code_57) rfl rfl hr))))) ?_
  show own_Go p e below _ (T5.setTop (mkF m 58 #[.val (.ref o0), .val (.int (0 : Int32)), .val (.int (2 : Int32)), .val (.ref b1), .val (.int (2 : Int32)), .unset] [(.ref b1)]))
  have f8 := (EA1.keep K5)
  have K9 := ((K0.ext E1).trans K5 (allS (Or.inr sz3) all0))
  exact own_retR X5 hx hlk Bd.returns rfl rfl (hb hby own_d_jdk_52_method_16_code_58) (by decide) (by decide) (by exact ⟨b1, k1, rfl, N5, K9, ge2, sz3, f8, f5_0⟩)
def Q_coderFromArrayLen_9 (Z : State) (h0 : Heap) (n0 : Nat) (v : Option Value) (h : Heap) (L : List Loc) : Prop := v = some (.int (0 : Int32)) ∧ Fr n0 L ∧ h = h0
set_option maxRecDepth 65536 in
set_option maxHeartbeats 40000000 in
theorem rm_coderFromArrayLen_9 (l : Launch) (Z : State) (a0 : Array Value) (hw : ∀ d ∈ tables_1, d.before a0 Z = true) (ws : List Jvm.Cond) (o0 : Addr) (y0 : Int32) (y1 : Int32) (kc0 : ClassId) (h0 : Heap) (n0 : Nat) (Z0 : n0 ≤ h0.size) (P0 : Arv Z h0 o0 kc0 .byte (2 : Int32) [(.int y0), (.int y1)] (.int (0 : Int32))) :
    MetFree l (⟨"java/lang/StringUTF16", "coderFromArrayLen", "([BI)B"⟩ : MethodName) (head1 (Jvm.Cond.code (⟨"java/lang/StringUTF16", "coderFromArrayLen", "([BI)B"⟩ : MethodName) jdk_52_method_15_code 2 (some .byte) :: ws) ({ frames := 0, cells := 0, slots := 0, locals := 0 } : Room)) (fun aA U => aA = #[(.ref o0), (.int (2 : Int32))] ∧ Z.Warmed39 U.vm ∧ U.heap = h0) (fun _ _ _ _ _ => True) (fun _ U o U' => ∃ v L, o = .returned v ∧ Q_coderFromArrayLen_9 Z h0 n0 v U'.heap L ∧ FrameEnd U o U' L ({ frames := 0, cells := 0, slots := 0, locals := 0 } : Room).cells ({ frames := 0, cells := 0, slots := 0, locals := 0 } : Room).slots) := by
  refine MetFree.of_bodySF (plainFor_of_name own_pn_java_lang_StringUTF16) hisR ?_
  intro p e s m args below meth c s₁ Bd hml0 hP hK
  obtain ⟨rfl, hZ, hh⟩ := hP
  have hx := Bd.exec
  have hby := Bd.bytes
  have hlk : meth.locks = false := BodyLoose.notSynchronized Bd
  have hml : c.maxLocals = 2 := hml0
  have hown : s.vm.findClass "java/lang/StringUTF16" = some m.cls := findClass_of_methodNamed Bd.named
  have hnm := (name_of_methodNamed Bd.named Bd.method).1
  have X0 : Stand p l e ({ frames := 0, cells := 0, slots := 0, locals := 0 } : Room) s m #[(.ref o0), (.int (2 : Int32))] below meth c s₁ [] 0 0 := Stand.of_body Bd
  have e0 : s₁.heap = h0 := by rw [← hh, Bd.state]; rfl
  have N0 := Fr.nil n0
  show own_Go p e below (own_K s (Q_coderFromArrayLen_9 Z h0 n0) ({ frames := 0, cells := 0, slots := 0, locals := 0 } : Room).cells ({ frames := 0, cells := 0, slots := 0, locals := 0 } : Room).slots) (s₁.setTop (entryFrame m #[(.ref o0), (.int (2 : Int32))] 2))
  rw [(by first | (simp [entryFrame, mkF, argsToLocals, Value.category]; done) | rfl : entryFrame m #[(.ref o0), (.int (2 : Int32))] 2 = mkF m 0 #[.val (.ref o0), .val (.int (2 : Int32))] [])]
  show own_Go p e below _ (s₁.setTop (mkF m 0 #[.val (.ref o0), .val (.int (2 : Int32))] []))
  refine own_go (fun _ hr => XS.iloadN X0.here hx rfl (hb hby own_d_jdk_52_method_15_code_0) rfl (XS.aloadN X0.here hx rfl (hb hby own_d_jdk_52_method_15_code_1) rfl rfl (own_alen X0 hx hZ e0 P0 rfl rfl (hb hby own_d_jdk_52_method_15_code_2) (XS.isub X0.here hx rfl (hb hby own_d_jdk_52_method_15_code_3) rfl (XS.bipush X0.here hx rfl (hb hby own_d_jdk_52_method_15_code_4) (XS.iushr X0.here hx rfl (hb hby own_d_jdk_52_method_15_code_6) rfl (XS.i2b X0.here hx rfl (hb hby own_d_jdk_52_method_15_code_7) rfl hr))))))) ?_
  show own_Go p e below _ (s₁.setTop (mkF m 8 #[.val (.ref o0), .val (.int (2 : Int32))] [(.int (0 : Int32))]))
  exact own_retN X0 hx hlk Bd.returns (t := .byte) (by simp) (hb hby own_d_jdk_52_method_15_code_8) (by decide) (by decide) ⟨rfl, N0, e0⟩
def Q_init_10 (Z : State) (o0 : Addr) (y1 : Int32) (y2 : Int32) (h0 : Heap) (n0 : Nat) (v : Option Value) (h : Heap) (L : List Loc) : Prop := (∃ (b3_0 : Addr) (kb3_0 : ClassId), v = none ∧ Fr n0 L ∧ Keep h0 h [o0] ∧ n0 ≤ b3_0 ∧ h0.size ≤ b3_0 ∧ Fld Z h o0 "java/lang/String" "coder" "B" (.int (0 : Int32)) ∧ Fld Z h o0 "java/lang/String" "value" "[B" (.ref b3_0) ∧ Exa Z h b3_0 "[B" ∧ Arv Z h b3_0 kb3_0 .byte (2 : Int32) [(.int (y1.toInt8.toInt32)), (.int (y2.toInt8.toInt32))] (.int (0 : Int32)))
set_option maxRecDepth 65536 in
set_option maxHeartbeats 40000000 in
theorem rm_init_10 (l : Launch) (Z : State) (a0 : Array Value) (hw : ∀ d ∈ tables_1, d.before a0 Z = true) (ws : List Jvm.Cond) (o0 : Addr) (o1 : Addr) (y0 : Int32) (y1 : Int32) (y2 : Int32) (kc0 : ClassId) (h0 : Heap) (n0 : Nat) (Z0 : n0 ≤ h0.size) (P0 : Sta Z h0 "java/lang/String" "COMPACT_STRINGS" "Z" (.int y0)) (P1 : Exa Z h0 o1 "[C") (P2 : Arv Z h0 o1 kc0 .char (2 : Int32) [(.int y1), (.int y2)] (.int (0 : Int32))) (P3 : Exa Z h0 o0 "java/lang/String") (P4 : Fld Z h0 o0 "java/lang/String" "coder" "B" (.int (0 : Int32))) (P5 : Fld Z h0 o0 "java/lang/String" "value" "[B" .null) (ge0p : n0 ≤ o0) (hb0 : ¬ (y0 = (0 : Int32))) (hb1 : ¬ ((255 : Int32) < y1)) (hb2 : (nar .byte (y1.toInt8.toInt32)) = (y1.toInt8.toInt32)) (hb3 : ¬ ((255 : Int32) < y2)) (hb4 : (nar .byte (y2.toInt8.toInt32)) = (y2.toInt8.toInt32)) :
    MetFree l (⟨"java/lang/String", "<init>", "([CIILjava/lang/Void;)V"⟩ : MethodName) (head1 (Jvm.Cond.code (⟨"java/lang/String", "<init>", "([CIILjava/lang/Void;)V"⟩ : MethodName) jdk_42_method_149_code 6 none :: ws) ({ frames := 2, cells := 1, slots := 2, locals := 35 } : Room)) (fun aA U => aA = #[(.ref o0), (.ref o1), (.int (0 : Int32)), (.int (2 : Int32)), .null] ∧ Z.Warmed39 U.vm ∧ U.heap = h0) (fun _ _ _ _ _ => True) (fun _ U o U' => ∃ v L, o = .returned v ∧ Q_init_10 Z o0 y1 y2 h0 n0 v U'.heap L ∧ FrameEnd U o U' L ({ frames := 2, cells := 1, slots := 2, locals := 35 } : Room).cells ({ frames := 2, cells := 1, slots := 2, locals := 35 } : Room).slots) := by
  refine MetFree.of_bodySF (plainFor_of_name own_pn_java_lang_String) hisR ?_
  intro p e s m args below meth c s₁ Bd hml0 hP hK
  obtain ⟨rfl, hZ, hh⟩ := hP
  have hx := Bd.exec
  have hby := Bd.bytes
  have hlk : meth.locks = false := BodyLoose.notSynchronized Bd
  have hml : c.maxLocals = 6 := hml0
  have hown : s.vm.findClass "java/lang/String" = some m.cls := findClass_of_methodNamed Bd.named
  have hnm := (name_of_methodNamed Bd.named Bd.method).1
  have X0 : Stand p l e ({ frames := 2, cells := 1, slots := 2, locals := 35 } : Room) s m #[(.ref o0), (.ref o1), (.int (0 : Int32)), (.int (2 : Int32)), .null] below meth c s₁ [] 0 0 := Stand.of_body Bd
  have e0 : s₁.heap = h0 := by rw [← hh, Bd.state]; rfl
  have N0 := Fr.nil n0
  have K0 : Keep h0 h0 [o0] := Keep.refl _ _
  show own_Go p e below (own_K s (Q_init_10 Z o0 y1 y2 h0 n0) ({ frames := 2, cells := 1, slots := 2, locals := 35 } : Room).cells ({ frames := 2, cells := 1, slots := 2, locals := 35 } : Room).slots) (s₁.setTop (entryFrame m #[(.ref o0), (.ref o1), (.int (0 : Int32)), (.int (2 : Int32)), .null] 6))
  rw [(by first | (simp [entryFrame, mkF, argsToLocals, Value.category]; done) | rfl : entryFrame m #[(.ref o0), (.ref o1), (.int (0 : Int32)), (.int (2 : Int32)), .null] 6 = mkF m 0 #[.val (.ref o0), .val (.ref o1), .val (.int (0 : Int32)), .val (.int (2 : Int32)), .val .null, .unset] [])]
  show own_Go p e below _ (s₁.setTop (mkF m 0 #[.val (.ref o0), .val (.ref o1), .val (.int (0 : Int32)), .val (.int (2 : Int32)), .val .null, .unset] []))
  refine own_go (fun _ hr => XS.aloadN X0.here hx rfl (hb hby own_d_jdk_42_method_149_code_0) rfl rfl hr) ?_
  show own_Go p e below _ (s₁.setTop (mkF m 1 #[.val (.ref o0), .val (.ref o1), .val (.int (0 : Int32)), .val (.int (2 : Int32)), .val .null, .unset] [(.ref o0)]))
  obtain ⟨T1, X1, e1, st1⟩ := initO X0 hx hZ hown (hw _ (own_m 15 rfl)) (hw _ (own_m 16 rfl)) (hw _ (own_m 17 rfl)) e0 (g := (mkF m 1 #[.val (.ref o0), .val (.ref o1), .val (.int (0 : Int32)), .val (.int (2 : Int32)), .val .null, .unset] [(.ref o0)])) rfl (by rw [hml]; rfl) rfl (hb hby own_d_jdk_42_method_149_code_1) (by decide) (W := 0) (by show 2 * 0 + _ ≤ _; exact Nat.le_of_eq rfl) (by decide)
  refine own_go st1 ?_
  show own_Go p e below _ (T1.setTop (mkF m 4 #[.val (.ref o0), .val (.ref o1), .val (.int (0 : Int32)), .val (.int (2 : Int32)), .val .null, .unset] []))
  refine own_go (fun _ hr => XS.iloadN X1.here hx rfl (hb hby own_d_jdk_42_method_149_code_4) rfl (XS.ifYes X1.here hx rfl (pc0 := 5) (pc' := 27) rfl (hb hby own_d_jdk_42_method_149_code_5) rfl ((if0 _ _).trans (feq (by decide)).2) (by decide) (by decide) hr)) ?_
  show own_Go p e below _ (T1.setTop (mkF m 27 #[.val (.ref o0), .val (.ref o1), .val (.int (0 : Int32)), .val (.int (2 : Int32)), .val .null, .unset] []))
  obtain ⟨T2, X2, e2, st2⟩ := getS2 X1 hx hZ hown (host := "") (Or.inl (hw _ (own_m 44 rfl))) Via.refl e1 P0 (g := (mkF m 27 #[.val (.ref o0), .val (.ref o1), .val (.int (0 : Int32)), .val (.int (2 : Int32)), .val .null, .unset] [])) rfl (hb hby own_d_jdk_42_method_149_code_27)
  refine own_go st2 ?_
  show own_Go p e below _ (T2.setTop (mkF m 30 #[.val (.ref o0), .val (.ref o1), .val (.int (0 : Int32)), .val (.int (2 : Int32)), .val .null, .unset] [(.int y0)]))
  refine own_go (fun _ hr => XS.ifNo X2.here hx rfl (hb hby own_d_jdk_42_method_149_code_30) rfl ((if0 _ _).trans (feq hb0).1) hr) ?_
  show own_Go p e below _ (T2.setTop (mkF m 33 #[.val (.ref o0), .val (.ref o1), .val (.int (0 : Int32)), .val (.int (2 : Int32)), .val .null, .unset] []))
  refine own_go (fun _ hr => XS.aloadN X2.here hx rfl (hb hby own_d_jdk_42_method_149_code_33) rfl rfl (XS.iloadN X2.here hx rfl (hb hby own_d_jdk_42_method_149_code_34) rfl (XS.iloadN X2.here hx rfl (hb hby own_d_jdk_42_method_149_code_35) rfl hr))) ?_
  show own_Go p e below _ (T2.setTop (mkF m 36 #[.val (.ref o0), .val (.ref o1), .val (.int (0 : Int32)), .val (.int (2 : Int32)), .val .null, .unset] [(.int (2 : Int32)), (.int (0 : Int32)), (.ref o1)]))
  refine own_cs X2 hx hZ hown (hw _ (own_m 45 rfl)) (hw _ (own_m 46 rfl)) (hw _ (own_m 47 rfl)) (hw _ (own_m 48 rfl)) (by decide) (rm := { frames := 1, cells := 1, slots := 2, locals := 18 }) (rm_compress_8 l Z a0 hw [] o1 y1 y2 kc0 h0 n0 Z0 P1 P2 hb1 hb2 hb3 hb4) (by decide) (W := 0) (by decide) (by decide) (by decide) e2 (by rw [hml]; rfl) (argsL := [(.ref o1), (.int (0 : Int32)), (.int (2 : Int32))]) (lenOf own_pd3 rfl) (rest := []) rfl rfl (Nat.le_of_eq rfl) (hb hby own_d_jdk_42_method_149_code_36) ?_
  intro _ T3 L3 X3 hQ3
  obtain ⟨b3_0, kb3_0, rfl, N3q, K3, ge3_0, sz3_0, f3_0, f3_1⟩ := hQ3
  have N3 := Fr.app N0 N3q
  have sz4 : h0.size ≤ b3_0 := Nat.le_trans K0.1 sz3_0
  show own_Go p e below _ (T3.setTop (mkF m 39 #[.val (.ref o0), .val (.ref o1), .val (.int (0 : Int32)), .val (.int (2 : Int32)), .val .null, .unset] [(.ref b3_0)]))
  refine own_go (fun _ hr => XS.astore X3.here hx rfl (hb hby own_d_jdk_42_method_149_code_39) rfl rfl (l' := #[.val (.ref o0), .val (.ref o1), .val (.int (0 : Int32)), .val (.int (2 : Int32)), .val .null, .val (.ref b3_0)]) rfl (XS.aloadN X3.here hx rfl (hb hby own_d_jdk_42_method_149_code_41) rfl rfl (XS.aload X3.here hx rfl (hb hby own_d_jdk_42_method_149_code_42) rfl rfl (XS.iloadN X3.here hx rfl (hb hby own_d_jdk_42_method_149_code_44) rfl hr)))) ?_
  show own_Go p e below _ (T3.setTop (mkF m 45 #[.val (.ref o0), .val (.ref o1), .val (.int (0 : Int32)), .val (.int (2 : Int32)), .val .null, .val (.ref b3_0)] [(.int (2 : Int32)), (.ref b3_0), (.ref o0)]))
  have Z6 := (Nat.le_trans Z0 K3.1)
  refine own_cs X3 hx hZ hown (hw _ (own_m 52 rfl)) (hw _ (own_m 53 rfl)) (hw _ (own_m 47 rfl)) (hw _ (own_m 54 rfl)) (by decide) (rm := { frames := 0, cells := 0, slots := 0, locals := 0 }) (rm_coderFromArrayLen_9 l Z a0 hw [] b3_0 (y1.toInt8.toInt32) (y2.toInt8.toInt32) kb3_0 T3.heap n0 Z6 f3_1) (by decide) (W := 1) (by decide) (by decide) (by decide) rfl (by rw [hml]; rfl) (argsL := [(.ref b3_0), (.int (2 : Int32))]) (lenOf own_pd4 rfl) (rest := [(.ref o0)]) rfl rfl (Nat.le_of_eq rfl) (hb hby own_d_jdk_42_method_149_code_45) ?_
  intro _ T5 L5 X5 hQ5
  obtain ⟨rfl, N5q, e5⟩ := hQ5
  have N5 := Fr.app N3 N5q
  show own_Go p e below _ (T5.setTop (mkF m 48 #[.val (.ref o0), .val (.ref o1), .val (.int (0 : Int32)), .val (.int (2 : Int32)), .val .null, .val (.ref b3_0)] [(.int (0 : Int32)), (.ref o0)]))
  have f7 := (P3.keep K3)
  have f8 := (P4.keep K3 nin0)
  obtain ⟨T9, h9, X9, e9, W9, st9⟩ := putFN X5 hx hZ hown (hw _ (own_m 25 rfl)) Via.refl e5 f8 f7 (Or.inr ⟨(hw _ (own_m 21 rfl)), rfl, hnm⟩) (hw _ (own_m 5 rfl)) (ty := .byte) (v' := .int (0 : Int32)) (by decide) rfl (by decide) (g := (mkF m 48 #[.val (.ref o0), .val (.ref o1), .val (.int (0 : Int32)), .val (.int (2 : Int32)), .val .null, .val (.ref b3_0)] [(.int (0 : Int32)), (.ref o0)])) rfl rfl (hb hby own_d_jdk_42_method_149_code_48)
  refine own_go st9 ?_
  have f10 := f8.same W9
  have N11 := Fr.snoc X9 N5 ge0p
  show own_Go p e below _ (T9.setTop (mkF m 51 #[.val (.ref o0), .val (.ref o1), .val (.int (0 : Int32)), .val (.int (2 : Int32)), .val .null, .val (.ref b3_0)] []))
  refine own_go (fun _ hr => XS.aloadN X9.here hx rfl (hb hby own_d_jdk_42_method_149_code_51) rfl rfl (XS.aload X9.here hx rfl (hb hby own_d_jdk_42_method_149_code_52) rfl rfl hr)) ?_
  show own_Go p e below _ (T9.setTop (mkF m 54 #[.val (.ref o0), .val (.ref o1), .val (.int (0 : Int32)), .val (.int (2 : Int32)), .val .null, .val (.ref b3_0)] [(.ref b3_0), (.ref o0)]))
  have f12 := (f7.wr W9)
  have f13 := ((P5.keep K3 nin0).other W9 (Or.inr (slot_ne (Or.inr (hw _ (own_m 20 rfl))) (Or.inr (hw _ (own_m 21 rfl))) (by decide) (t := (.array .byte)) (t' := .byte) (by decide) (by decide))))
  obtain ⟨T14, h14, X14, e14, W14, st14⟩ := putF X9 hx hZ hown (host := "") (Or.inl (hw _ (own_m 24 rfl))) Via.refl e9 f13 f12 (Or.inr ⟨(hw _ (own_m 20 rfl)), rfl, hnm⟩) (hw _ (own_m 5 rfl)) (ty := (.array .byte)) (by decide) rfl rfl (g := (mkF m 54 #[.val (.ref o0), .val (.ref o1), .val (.int (0 : Int32)), .val (.int (2 : Int32)), .val .null, .val (.ref b3_0)] [(.ref b3_0), (.ref o0)])) rfl rfl (hb hby own_d_jdk_42_method_149_code_54)
  refine own_go st14 ?_
  have f15 := f13.same W14
  have N16 := Fr.snoc X14 N11 ge0p
  show own_Go p e below _ (T14.setTop (mkF m 57 #[.val (.ref o0), .val (.ref o1), .val (.int (0 : Int32)), .val (.int (2 : Int32)), .val .null, .val (.ref b3_0)] []))
  have f17 := (f10.other W14 (Or.inr (slot_ne (Or.inr (hw _ (own_m 21 rfl))) (Or.inr (hw _ (own_m 20 rfl))) (by decide) (t := .byte) (t' := (.array .byte)) (by decide) (by decide))))
  have f18 := ((f3_0.wr W9).wr W14)
  have f19 := ((f3_1.other W9 (Ne.symm (Nat.ne_of_lt (Nat.lt_of_lt_of_le P3.lt sz3_0)))).other W14 (Ne.symm (Nat.ne_of_lt (Nat.lt_of_lt_of_le P3.lt sz3_0))))
  have K20 := (((K0.trans K3 all0).wr W9 (Or.inl (List.mem_of_getElem? (i := 0) rfl))).wr W14 (Or.inl (List.mem_of_getElem? (i := 0) rfl)))
  exact own_ret0 X14 hx hlk Bd.returns (hb hby own_d_jdk_42_method_149_code_57) (by decide) (by decide) (by rw [e14]; exact ⟨b3_0, kb3_0, rfl, N16, K20, ge3_0, sz4, f17, f15, f18, f19⟩)
def Q_compress_12 (Z : State) (y0 : Int32) (y1 : Int32) (h0 : Heap) (n0 : Nat) (v : Option Value) (h : Heap) (L : List Loc) : Prop := (∃ (b1 : Addr) (k1 : ClassId), v = some (.ref b1) ∧ Fr n0 L ∧ Keep h0 h [] ∧ n0 ≤ b1 ∧ h0.size ≤ b1 ∧ Exa Z h b1 "[B" ∧ Arv Z h b1 k1 .byte (2 : Int32) [(.int (y0.toInt8.toInt32)), (.int (y1.toInt8.toInt32))] (.int (0 : Int32)))
set_option maxRecDepth 65536 in
set_option maxHeartbeats 40000000 in
theorem rm_compress_12 (l : Launch) (Z : State) (a0 : Array Value) (hw : ∀ d ∈ tables_1, d.before a0 Z = true) (ws : List Jvm.Cond) (o0 : Addr) (y0 : Int32) (y1 : Int32) (kc0 : ClassId) (h0 : Heap) (n0 : Nat) (Z0 : n0 ≤ h0.size) (P0 : Arv Z h0 o0 kc0 .char (2 : Int32) [(.int y0), (.int y1)] (.int (0 : Int32))) (hb0 : ¬ ((255 : Int32) < y0)) (hb1 : (nar .byte (y0.toInt8.toInt32)) = (y0.toInt8.toInt32)) (hb2 : ¬ ((255 : Int32) < y1)) (hb3 : (nar .byte (y1.toInt8.toInt32)) = (y1.toInt8.toInt32)) :
    MetFree l (⟨"java/lang/StringUTF16", "compress", "([CII)[B"⟩ : MethodName) (head1 (Jvm.Cond.code (⟨"java/lang/StringUTF16", "compress", "([CII)[B"⟩ : MethodName) jdk_52_method_16_code 6 (some (.array .byte)) :: ws) ({ frames := 1, cells := 1, slots := 2, locals := 18 } : Room)) (fun aA U => aA = #[(.ref o0), (.int (0 : Int32)), (.int (2 : Int32))] ∧ Z.Warmed39 U.vm ∧ U.heap = h0) (fun _ _ _ _ _ => True) (fun _ U o U' => ∃ v L, o = .returned v ∧ Q_compress_12 Z y0 y1 h0 n0 v U'.heap L ∧ FrameEnd U o U' L ({ frames := 1, cells := 1, slots := 2, locals := 18 } : Room).cells ({ frames := 1, cells := 1, slots := 2, locals := 18 } : Room).slots) := by
  refine MetFree.of_bodySF (plainFor_of_name own_pn_java_lang_StringUTF16) hisR ?_
  intro p e s m args below meth c s₁ Bd hml0 hP hK
  obtain ⟨rfl, hZ, hh⟩ := hP
  have hx := Bd.exec
  have hby := Bd.bytes
  have hlk : meth.locks = false := BodyLoose.notSynchronized Bd
  have hml : c.maxLocals = 6 := hml0
  have hown : s.vm.findClass "java/lang/StringUTF16" = some m.cls := findClass_of_methodNamed Bd.named
  have hnm := (name_of_methodNamed Bd.named Bd.method).1
  have X0 : Stand p l e ({ frames := 1, cells := 1, slots := 2, locals := 18 } : Room) s m #[(.ref o0), (.int (0 : Int32)), (.int (2 : Int32))] below meth c s₁ [] 0 0 := Stand.of_body Bd
  have e0 : s₁.heap = h0 := by rw [← hh, Bd.state]; rfl
  have N0 := Fr.nil n0
  have K0 : Keep h0 h0 [] := Keep.refl _ _
  show own_Go p e below (own_K s (Q_compress_12 Z y0 y1 h0 n0) ({ frames := 1, cells := 1, slots := 2, locals := 18 } : Room).cells ({ frames := 1, cells := 1, slots := 2, locals := 18 } : Room).slots) (s₁.setTop (entryFrame m #[(.ref o0), (.int (0 : Int32)), (.int (2 : Int32))] 6))
  rw [(by first | (simp [entryFrame, mkF, argsToLocals, Value.category]; done) | rfl : entryFrame m #[(.ref o0), (.int (0 : Int32)), (.int (2 : Int32))] 6 = mkF m 0 #[.val (.ref o0), .val (.int (0 : Int32)), .val (.int (2 : Int32)), .unset, .unset, .unset] [])]
  show own_Go p e below _ (s₁.setTop (mkF m 0 #[.val (.ref o0), .val (.int (0 : Int32)), .val (.int (2 : Int32)), .unset, .unset, .unset] []))
  refine own_go (fun _ hr => XS.iloadN X0.here hx rfl (hb hby own_d_jdk_52_method_16_code_0) rfl hr) ?_
  show own_Go p e below _ (s₁.setTop (mkF m 1 #[.val (.ref o0), .val (.int (0 : Int32)), .val (.int (2 : Int32)), .unset, .unset, .unset] [(.int (2 : Int32))]))
  obtain ⟨T1, h1, k1, X1, e1, E1, A1, EA1, st1⟩ := newPE X0 hx hZ (hw _ (own_m 19 rfl)) e0 (g := (mkF m 1 #[.val (.ref o0), .val (.int (0 : Int32)), .val (.int (2 : Int32)), .unset, .unset, .unset] [(.int (2 : Int32))])) rfl (hb hby own_d_jdk_52_method_16_code_1) rfl (by decide) (cap := 2) (by decide) (by decide) (by decide) (by decide) (ad := "[B") (by decide)
  obtain ⟨b1, g1⟩ : ∃ z, z = h0.size := ⟨_, rfl⟩
  rw [← g1] at A1 EA1 st1
  have ge2 : n0 ≤ b1 := Nat.le_trans Z0 (Nat.le_of_eq g1.symm)
  have sz3 : h0.size ≤ b1 := Nat.le_trans K0.1 (Nat.le_of_eq g1.symm)
  refine own_go st1 ?_
  have f4 : Arv Z h1 b1 k1 .byte (2 : Int32) [(.int (0 : Int32)), (.int (0 : Int32))] (.int (0 : Int32)) := (Arv.new A1 (by decide)).pad (pad_rep [] (.int (0 : Int32)) 2)
  show own_Go p e below _ (T1.setTop (mkF m 3 #[.val (.ref o0), .val (.int (0 : Int32)), .val (.int (2 : Int32)), .unset, .unset, .unset] [(.ref b1)]))
  refine own_go (fun _ hr => XS.astoreN X1.here hx rfl (hb hby own_d_jdk_52_method_16_code_3) rfl rfl (l' := #[.val (.ref o0), .val (.int (0 : Int32)), .val (.int (2 : Int32)), .val (.ref b1), .unset, .unset]) rfl (XS.aloadN X1.here hx rfl (hb hby own_d_jdk_52_method_16_code_4) rfl rfl (XS.iloadN X1.here hx rfl (hb hby own_d_jdk_52_method_16_code_5) rfl (XS.aloadN X1.here hx rfl (hb hby own_d_jdk_52_method_16_code_6) rfl rfl (XS.iconst X1.here hx rfl (hb hby own_d_jdk_52_method_16_code_7) (XS.iloadN X1.here hx rfl (hb hby own_d_jdk_52_method_16_code_8) rfl hr)))))) ?_
  show own_Go p e below _ (T1.setTop (mkF m 9 #[.val (.ref o0), .val (.int (0 : Int32)), .val (.int (2 : Int32)), .val (.ref b1), .unset, .unset] [(.int (2 : Int32)), (.int (0 : Int32)), (.ref b1), (.int (0 : Int32)), (.ref o0)]))
  have f6 := (P0.ext E1)
  have Z7 := (Nat.le_trans Z0 E1.1)
  refine own_cs X1 hx hZ hown (hw _ (own_m 49 rfl)) (hw _ (own_m 50 rfl)) (hw _ (own_m 47 rfl)) (hw _ (own_m 51 rfl)) (by decide) (rm := { frames := 0, cells := 0, slots := 0, locals := 0 }) (rm_compress_7 l Z a0 hw [] o0 b1 y0 y1 kc0 k1 h1 n0 Z7 f6 f4 (Nat.ne_of_lt (Nat.lt_of_lt_of_le P0.lt (Nat.le_of_eq g1.symm))) ge2 hb0 hb1 hb2 hb3) (by decide) (W := 0) (by decide) (by decide) (by decide) e1 (by rw [hml]; rfl) (argsL := [(.ref o0), (.int (0 : Int32)), (.ref b1), (.int (0 : Int32)), (.int (2 : Int32))]) (lenOf own_pd2 rfl) (rest := []) rfl rfl (Nat.le_of_eq rfl) (hb hby own_d_jdk_52_method_16_code_9) ?_
  intro _ T5 L5 X5 hQ5
  obtain ⟨rfl, N5q, K5, f5_0⟩ := hQ5
  have N5 := Fr.app N0 N5q
  show own_Go p e below _ (T5.setTop (mkF m 12 #[.val (.ref o0), .val (.int (0 : Int32)), .val (.int (2 : Int32)), .val (.ref b1), .unset, .unset] [(.int (2 : Int32))]))
  refine own_go (fun _ hr => XS.istore X5.here hx rfl (hb hby own_d_jdk_52_method_16_code_12) rfl (l' := #[.val (.ref o0), .val (.int (0 : Int32)), .val (.int (2 : Int32)), .val (.ref b1), .val (.int (2 : Int32)), .unset]) rfl (XS.iload X5.here hx rfl (hb hby own_d_jdk_52_method_16_code_14) rfl (XS.iloadN X5.here hx rfl (hb hby own_d_jdk_52_method_16_code_16) rfl (XS.icmpYes X5.here hx rfl (pc0 := 17) (pc' := 57) rfl (hb hby own_d_jdk_52_method_16_code_17) rfl (teq (by decide)).1 (by decide) (by decide) (XS.aloadN X5.here hx rfl (hb hby own_d_jdk_52_method_16_code_57) rfl rfl hr))))) ?_
  show own_Go p e below _ (T5.setTop (mkF m 58 #[.val (.ref o0), .val (.int (0 : Int32)), .val (.int (2 : Int32)), .val (.ref b1), .val (.int (2 : Int32)), .unset] [(.ref b1)]))
  have f8 := (EA1.keep K5)
  have K9 := ((K0.ext E1).trans K5 (allS (Or.inr sz3) all0))
  exact own_retR X5 hx hlk Bd.returns rfl rfl (hb hby own_d_jdk_52_method_16_code_58) (by decide) (by decide) (by exact ⟨b1, k1, rfl, N5, K9, ge2, sz3, f8, f5_0⟩)
def Q_init_13 (Z : State) (o0 : Addr) (y1 : Int32) (y2 : Int32) (h0 : Heap) (n0 : Nat) (v : Option Value) (h : Heap) (L : List Loc) : Prop := (∃ (b3_0 : Addr) (kb3_0 : ClassId), v = none ∧ Fr n0 L ∧ Keep h0 h [o0] ∧ n0 ≤ b3_0 ∧ h0.size ≤ b3_0 ∧ Fld Z h o0 "java/lang/String" "coder" "B" (.int (0 : Int32)) ∧ Fld Z h o0 "java/lang/String" "value" "[B" (.ref b3_0) ∧ Exa Z h b3_0 "[B" ∧ Arv Z h b3_0 kb3_0 .byte (2 : Int32) [(.int (y1.toInt8.toInt32)), (.int (y2.toInt8.toInt32))] (.int (0 : Int32)))
set_option maxRecDepth 65536 in
set_option maxHeartbeats 40000000 in
theorem rm_init_13 (l : Launch) (Z : State) (a0 : Array Value) (hw : ∀ d ∈ tables_1, d.before a0 Z = true) (ws : List Jvm.Cond) (o0 : Addr) (o1 : Addr) (y0 : Int32) (y1 : Int32) (y2 : Int32) (kc0 : ClassId) (h0 : Heap) (n0 : Nat) (Z0 : n0 ≤ h0.size) (P0 : Sta Z h0 "java/lang/String" "COMPACT_STRINGS" "Z" (.int y0)) (P1 : Arv Z h0 o1 kc0 .char (2 : Int32) [(.int y1), (.int y2)] (.int (0 : Int32))) (P2 : Exa Z h0 o0 "java/lang/String") (P3 : Fld Z h0 o0 "java/lang/String" "coder" "B" (.int (0 : Int32))) (P4 : Fld Z h0 o0 "java/lang/String" "value" "[B" .null) (ge0p : n0 ≤ o0) (hb0 : ¬ (y0 = (0 : Int32))) (hb1 : ¬ ((255 : Int32) < y1)) (hb2 : (nar .byte (y1.toInt8.toInt32)) = (y1.toInt8.toInt32)) (hb3 : ¬ ((255 : Int32) < y2)) (hb4 : (nar .byte (y2.toInt8.toInt32)) = (y2.toInt8.toInt32)) :
    MetFree l (⟨"java/lang/String", "<init>", "([CIILjava/lang/Void;)V"⟩ : MethodName) (head1 (Jvm.Cond.code (⟨"java/lang/String", "<init>", "([CIILjava/lang/Void;)V"⟩ : MethodName) jdk_42_method_149_code 6 none :: ws) ({ frames := 2, cells := 1, slots := 2, locals := 35 } : Room)) (fun aA U => aA = #[(.ref o0), (.ref o1), (.int (0 : Int32)), (.int (2 : Int32)), .null] ∧ Z.Warmed39 U.vm ∧ U.heap = h0) (fun _ _ _ _ _ => True) (fun _ U o U' => ∃ v L, o = .returned v ∧ Q_init_13 Z o0 y1 y2 h0 n0 v U'.heap L ∧ FrameEnd U o U' L ({ frames := 2, cells := 1, slots := 2, locals := 35 } : Room).cells ({ frames := 2, cells := 1, slots := 2, locals := 35 } : Room).slots) := by
  refine MetFree.of_bodySF (plainFor_of_name own_pn_java_lang_String) hisR ?_
  intro p e s m args below meth c s₁ Bd hml0 hP hK
  obtain ⟨rfl, hZ, hh⟩ := hP
  have hx := Bd.exec
  have hby := Bd.bytes
  have hlk : meth.locks = false := BodyLoose.notSynchronized Bd
  have hml : c.maxLocals = 6 := hml0
  have hown : s.vm.findClass "java/lang/String" = some m.cls := findClass_of_methodNamed Bd.named
  have hnm := (name_of_methodNamed Bd.named Bd.method).1
  have X0 : Stand p l e ({ frames := 2, cells := 1, slots := 2, locals := 35 } : Room) s m #[(.ref o0), (.ref o1), (.int (0 : Int32)), (.int (2 : Int32)), .null] below meth c s₁ [] 0 0 := Stand.of_body Bd
  have e0 : s₁.heap = h0 := by rw [← hh, Bd.state]; rfl
  have N0 := Fr.nil n0
  have K0 : Keep h0 h0 [o0] := Keep.refl _ _
  show own_Go p e below (own_K s (Q_init_13 Z o0 y1 y2 h0 n0) ({ frames := 2, cells := 1, slots := 2, locals := 35 } : Room).cells ({ frames := 2, cells := 1, slots := 2, locals := 35 } : Room).slots) (s₁.setTop (entryFrame m #[(.ref o0), (.ref o1), (.int (0 : Int32)), (.int (2 : Int32)), .null] 6))
  rw [(by first | (simp [entryFrame, mkF, argsToLocals, Value.category]; done) | rfl : entryFrame m #[(.ref o0), (.ref o1), (.int (0 : Int32)), (.int (2 : Int32)), .null] 6 = mkF m 0 #[.val (.ref o0), .val (.ref o1), .val (.int (0 : Int32)), .val (.int (2 : Int32)), .val .null, .unset] [])]
  show own_Go p e below _ (s₁.setTop (mkF m 0 #[.val (.ref o0), .val (.ref o1), .val (.int (0 : Int32)), .val (.int (2 : Int32)), .val .null, .unset] []))
  refine own_go (fun _ hr => XS.aloadN X0.here hx rfl (hb hby own_d_jdk_42_method_149_code_0) rfl rfl hr) ?_
  show own_Go p e below _ (s₁.setTop (mkF m 1 #[.val (.ref o0), .val (.ref o1), .val (.int (0 : Int32)), .val (.int (2 : Int32)), .val .null, .unset] [(.ref o0)]))
  obtain ⟨T1, X1, e1, st1⟩ := initO X0 hx hZ hown (hw _ (own_m 15 rfl)) (hw _ (own_m 16 rfl)) (hw _ (own_m 17 rfl)) e0 (g := (mkF m 1 #[.val (.ref o0), .val (.ref o1), .val (.int (0 : Int32)), .val (.int (2 : Int32)), .val .null, .unset] [(.ref o0)])) rfl (by rw [hml]; rfl) rfl (hb hby own_d_jdk_42_method_149_code_1) (by decide) (W := 0) (by show 2 * 0 + _ ≤ _; exact Nat.le_of_eq rfl) (by decide)
  refine own_go st1 ?_
  show own_Go p e below _ (T1.setTop (mkF m 4 #[.val (.ref o0), .val (.ref o1), .val (.int (0 : Int32)), .val (.int (2 : Int32)), .val .null, .unset] []))
  refine own_go (fun _ hr => XS.iloadN X1.here hx rfl (hb hby own_d_jdk_42_method_149_code_4) rfl (XS.ifYes X1.here hx rfl (pc0 := 5) (pc' := 27) rfl (hb hby own_d_jdk_42_method_149_code_5) rfl ((if0 _ _).trans (feq (by decide)).2) (by decide) (by decide) hr)) ?_
  show own_Go p e below _ (T1.setTop (mkF m 27 #[.val (.ref o0), .val (.ref o1), .val (.int (0 : Int32)), .val (.int (2 : Int32)), .val .null, .unset] []))
  obtain ⟨T2, X2, e2, st2⟩ := getS2 X1 hx hZ hown (host := "") (Or.inl (hw _ (own_m 44 rfl))) Via.refl e1 P0 (g := (mkF m 27 #[.val (.ref o0), .val (.ref o1), .val (.int (0 : Int32)), .val (.int (2 : Int32)), .val .null, .unset] [])) rfl (hb hby own_d_jdk_42_method_149_code_27)
  refine own_go st2 ?_
  show own_Go p e below _ (T2.setTop (mkF m 30 #[.val (.ref o0), .val (.ref o1), .val (.int (0 : Int32)), .val (.int (2 : Int32)), .val .null, .unset] [(.int y0)]))
  refine own_go (fun _ hr => XS.ifNo X2.here hx rfl (hb hby own_d_jdk_42_method_149_code_30) rfl ((if0 _ _).trans (feq hb0).1) hr) ?_
  show own_Go p e below _ (T2.setTop (mkF m 33 #[.val (.ref o0), .val (.ref o1), .val (.int (0 : Int32)), .val (.int (2 : Int32)), .val .null, .unset] []))
  refine own_go (fun _ hr => XS.aloadN X2.here hx rfl (hb hby own_d_jdk_42_method_149_code_33) rfl rfl (XS.iloadN X2.here hx rfl (hb hby own_d_jdk_42_method_149_code_34) rfl (XS.iloadN X2.here hx rfl (hb hby own_d_jdk_42_method_149_code_35) rfl hr))) ?_
  show own_Go p e below _ (T2.setTop (mkF m 36 #[.val (.ref o0), .val (.ref o1), .val (.int (0 : Int32)), .val (.int (2 : Int32)), .val .null, .unset] [(.int (2 : Int32)), (.int (0 : Int32)), (.ref o1)]))
  refine own_cs X2 hx hZ hown (hw _ (own_m 45 rfl)) (hw _ (own_m 46 rfl)) (hw _ (own_m 47 rfl)) (hw _ (own_m 48 rfl)) (by decide) (rm := { frames := 1, cells := 1, slots := 2, locals := 18 }) (rm_compress_12 l Z a0 hw [] o1 y1 y2 kc0 h0 n0 Z0 P1 hb1 hb2 hb3 hb4) (by decide) (W := 0) (by decide) (by decide) (by decide) e2 (by rw [hml]; rfl) (argsL := [(.ref o1), (.int (0 : Int32)), (.int (2 : Int32))]) (lenOf own_pd3 rfl) (rest := []) rfl rfl (Nat.le_of_eq rfl) (hb hby own_d_jdk_42_method_149_code_36) ?_
  intro _ T3 L3 X3 hQ3
  obtain ⟨b3_0, kb3_0, rfl, N3q, K3, ge3_0, sz3_0, f3_0, f3_1⟩ := hQ3
  have N3 := Fr.app N0 N3q
  have sz4 : h0.size ≤ b3_0 := Nat.le_trans K0.1 sz3_0
  show own_Go p e below _ (T3.setTop (mkF m 39 #[.val (.ref o0), .val (.ref o1), .val (.int (0 : Int32)), .val (.int (2 : Int32)), .val .null, .unset] [(.ref b3_0)]))
  refine own_go (fun _ hr => XS.astore X3.here hx rfl (hb hby own_d_jdk_42_method_149_code_39) rfl rfl (l' := #[.val (.ref o0), .val (.ref o1), .val (.int (0 : Int32)), .val (.int (2 : Int32)), .val .null, .val (.ref b3_0)]) rfl (XS.aloadN X3.here hx rfl (hb hby own_d_jdk_42_method_149_code_41) rfl rfl (XS.aload X3.here hx rfl (hb hby own_d_jdk_42_method_149_code_42) rfl rfl (XS.iloadN X3.here hx rfl (hb hby own_d_jdk_42_method_149_code_44) rfl hr)))) ?_
  show own_Go p e below _ (T3.setTop (mkF m 45 #[.val (.ref o0), .val (.ref o1), .val (.int (0 : Int32)), .val (.int (2 : Int32)), .val .null, .val (.ref b3_0)] [(.int (2 : Int32)), (.ref b3_0), (.ref o0)]))
  have Z6 := (Nat.le_trans Z0 K3.1)
  refine own_cs X3 hx hZ hown (hw _ (own_m 52 rfl)) (hw _ (own_m 53 rfl)) (hw _ (own_m 47 rfl)) (hw _ (own_m 54 rfl)) (by decide) (rm := { frames := 0, cells := 0, slots := 0, locals := 0 }) (rm_coderFromArrayLen_9 l Z a0 hw [] b3_0 (y1.toInt8.toInt32) (y2.toInt8.toInt32) kb3_0 T3.heap n0 Z6 f3_1) (by decide) (W := 1) (by decide) (by decide) (by decide) rfl (by rw [hml]; rfl) (argsL := [(.ref b3_0), (.int (2 : Int32))]) (lenOf own_pd4 rfl) (rest := [(.ref o0)]) rfl rfl (Nat.le_of_eq rfl) (hb hby own_d_jdk_42_method_149_code_45) ?_
  intro _ T5 L5 X5 hQ5
  obtain ⟨rfl, N5q, e5⟩ := hQ5
  have N5 := Fr.app N3 N5q
  show own_Go p e below _ (T5.setTop (mkF m 48 #[.val (.ref o0), .val (.ref o1), .val (.int (0 : Int32)), .val (.int (2 : Int32)), .val .null, .val (.ref b3_0)] [(.int (0 : Int32)), (.ref o0)]))
  have f7 := (P2.keep K3)
  have f8 := (P3.keep K3 nin0)
  obtain ⟨T9, h9, X9, e9, W9, st9⟩ := putFN X5 hx hZ hown (hw _ (own_m 25 rfl)) Via.refl e5 f8 f7 (Or.inr ⟨(hw _ (own_m 21 rfl)), rfl, hnm⟩) (hw _ (own_m 5 rfl)) (ty := .byte) (v' := .int (0 : Int32)) (by decide) rfl (by decide) (g := (mkF m 48 #[.val (.ref o0), .val (.ref o1), .val (.int (0 : Int32)), .val (.int (2 : Int32)), .val .null, .val (.ref b3_0)] [(.int (0 : Int32)), (.ref o0)])) rfl rfl (hb hby own_d_jdk_42_method_149_code_48)
  refine own_go st9 ?_
  have f10 := f8.same W9
  have N11 := Fr.snoc X9 N5 ge0p
  show own_Go p e below _ (T9.setTop (mkF m 51 #[.val (.ref o0), .val (.ref o1), .val (.int (0 : Int32)), .val (.int (2 : Int32)), .val .null, .val (.ref b3_0)] []))
  refine own_go (fun _ hr => XS.aloadN X9.here hx rfl (hb hby own_d_jdk_42_method_149_code_51) rfl rfl (XS.aload X9.here hx rfl (hb hby own_d_jdk_42_method_149_code_52) rfl rfl hr)) ?_
  show own_Go p e below _ (T9.setTop (mkF m 54 #[.val (.ref o0), .val (.ref o1), .val (.int (0 : Int32)), .val (.int (2 : Int32)), .val .null, .val (.ref b3_0)] [(.ref b3_0), (.ref o0)]))
  have f12 := (f7.wr W9)
  have f13 := ((P4.keep K3 nin0).other W9 (Or.inr (slot_ne (Or.inr (hw _ (own_m 20 rfl))) (Or.inr (hw _ (own_m 21 rfl))) (by decide) (t := (.array .byte)) (t' := .byte) (by decide) (by decide))))
  obtain ⟨T14, h14, X14, e14, W14, st14⟩ := putF X9 hx hZ hown (host := "") (Or.inl (hw _ (own_m 24 rfl))) Via.refl e9 f13 f12 (Or.inr ⟨(hw _ (own_m 20 rfl)), rfl, hnm⟩) (hw _ (own_m 5 rfl)) (ty := (.array .byte)) (by decide) rfl rfl (g := (mkF m 54 #[.val (.ref o0), .val (.ref o1), .val (.int (0 : Int32)), .val (.int (2 : Int32)), .val .null, .val (.ref b3_0)] [(.ref b3_0), (.ref o0)])) rfl rfl (hb hby own_d_jdk_42_method_149_code_54)
  refine own_go st14 ?_
  have f15 := f13.same W14
  have N16 := Fr.snoc X14 N11 ge0p
  show own_Go p e below _ (T14.setTop (mkF m 57 #[.val (.ref o0), .val (.ref o1), .val (.int (0 : Int32)), .val (.int (2 : Int32)), .val .null, .val (.ref b3_0)] []))
  have f17 := (f10.other W14 (Or.inr (slot_ne (Or.inr (hw _ (own_m 21 rfl))) (Or.inr (hw _ (own_m 20 rfl))) (by decide) (t := .byte) (t' := (.array .byte)) (by decide) (by decide))))
  have f18 := ((f3_0.wr W9).wr W14)
  have f19 := ((f3_1.other W9 (Ne.symm (Nat.ne_of_lt (Nat.lt_of_lt_of_le P2.lt sz3_0)))).other W14 (Ne.symm (Nat.ne_of_lt (Nat.lt_of_lt_of_le P2.lt sz3_0))))
  have K20 := (((K0.trans K3 all0).wr W9 (Or.inl (List.mem_of_getElem? (i := 0) rfl))).wr W14 (Or.inl (List.mem_of_getElem? (i := 0) rfl)))
  exact own_ret0 X14 hx hlk Bd.returns (hb hby own_d_jdk_42_method_149_code_57) (by decide) (by decide) (by rw [e14]; exact ⟨b3_0, kb3_0, rfl, N16, K20, ge3_0, sz4, f17, f15, f18, f19⟩)
def Q_init_11 (Z : State) (o0 : Addr) (y0 : Int32) (y1 : Int32) (h0 : Heap) (n0 : Nat) (v : Option Value) (h : Heap) (L : List Loc) : Prop := (∃ (b1_0 : Addr) (kb1_0 : ClassId), v = none ∧ Fr n0 L ∧ Keep h0 h [o0] ∧ n0 ≤ b1_0 ∧ h0.size ≤ b1_0 ∧ Fld Z h o0 "java/lang/String" "coder" "B" (.int (0 : Int32)) ∧ Fld Z h o0 "java/lang/String" "value" "[B" (.ref b1_0) ∧ Exa Z h b1_0 "[B" ∧ Arv Z h b1_0 kb1_0 .byte (2 : Int32) [(.int (y0.toInt8.toInt32)), (.int (y1.toInt8.toInt32))] (.int (0 : Int32)))
set_option maxRecDepth 65536 in
set_option maxHeartbeats 40000000 in
theorem rm_init_11 (l : Launch) (Z : State) (a0 : Array Value) (hw : ∀ d ∈ tables_1, d.before a0 Z = true) (ws : List Jvm.Cond) (o0 : Addr) (o1 : Addr) (y0 : Int32) (y1 : Int32) (kc0 : ClassId) (y2 : Int32) (h0 : Heap) (n0 : Nat) (Z0 : n0 ≤ h0.size) (P0 : Arv Z h0 o1 kc0 .char (2 : Int32) [(.int y0), (.int y1)] (.int (0 : Int32))) (P1 : Sta Z h0 "java/lang/String" "COMPACT_STRINGS" "Z" (.int y2)) (P2 : Exa Z h0 o1 "[C") (P3 : Exa Z h0 o0 "java/lang/String") (P4 : Fld Z h0 o0 "java/lang/String" "coder" "B" (.int (0 : Int32))) (P5 : Fld Z h0 o0 "java/lang/String" "value" "[B" .null) (ge0p : n0 ≤ o0) (hb0 : ¬ (y2 = (0 : Int32))) (hb1 : ¬ ((255 : Int32) < y0)) (hb2 : (nar .byte (y0.toInt8.toInt32)) = (y0.toInt8.toInt32)) (hb3 : ¬ ((255 : Int32) < y1)) (hb4 : (nar .byte (y1.toInt8.toInt32)) = (y1.toInt8.toInt32)) :
    MetFree l (⟨"java/lang/String", "<init>", "([C)V"⟩ : MethodName) (head1 (Jvm.Cond.code (⟨"java/lang/String", "<init>", "([C)V"⟩ : MethodName) jdk_42_method_3_code 2 none :: ws) ({ frames := 3, cells := 1, slots := 2, locals := 52 } : Room)) (fun aA U => aA = #[(.ref o0), (.ref o1)] ∧ Z.Warmed39 U.vm ∧ U.heap = h0) (fun _ _ _ _ _ => True) (fun _ U o U' => ∃ v L, o = .returned v ∧ Q_init_11 Z o0 y0 y1 h0 n0 v U'.heap L ∧ FrameEnd U o U' L ({ frames := 3, cells := 1, slots := 2, locals := 52 } : Room).cells ({ frames := 3, cells := 1, slots := 2, locals := 52 } : Room).slots) := by
  refine MetFree.of_bodySF (plainFor_of_name own_pn_java_lang_String) hisR ?_
  intro p e s m args below meth c s₁ Bd hml0 hP hK
  obtain ⟨rfl, hZ, hh⟩ := hP
  have hx := Bd.exec
  have hby := Bd.bytes
  have hlk : meth.locks = false := BodyLoose.notSynchronized Bd
  have hml : c.maxLocals = 2 := hml0
  have hown : s.vm.findClass "java/lang/String" = some m.cls := findClass_of_methodNamed Bd.named
  have hnm := (name_of_methodNamed Bd.named Bd.method).1
  have X0 : Stand p l e ({ frames := 3, cells := 1, slots := 2, locals := 52 } : Room) s m #[(.ref o0), (.ref o1)] below meth c s₁ [] 0 0 := Stand.of_body Bd
  have e0 : s₁.heap = h0 := by rw [← hh, Bd.state]; rfl
  have N0 := Fr.nil n0
  have K0 : Keep h0 h0 [o0] := Keep.refl _ _
  show own_Go p e below (own_K s (Q_init_11 Z o0 y0 y1 h0 n0) ({ frames := 3, cells := 1, slots := 2, locals := 52 } : Room).cells ({ frames := 3, cells := 1, slots := 2, locals := 52 } : Room).slots) (s₁.setTop (entryFrame m #[(.ref o0), (.ref o1)] 2))
  rw [(by first | (simp [entryFrame, mkF, argsToLocals, Value.category]; done) | rfl : entryFrame m #[(.ref o0), (.ref o1)] 2 = mkF m 0 #[.val (.ref o0), .val (.ref o1)] [])]
  show own_Go p e below _ (s₁.setTop (mkF m 0 #[.val (.ref o0), .val (.ref o1)] []))
  refine own_go (fun _ hr => XS.aloadN X0.here hx rfl (hb hby own_d_jdk_42_method_3_code_0) rfl rfl (XS.aloadN X0.here hx rfl (hb hby own_d_jdk_42_method_3_code_1) rfl rfl (XS.iconst X0.here hx rfl (hb hby own_d_jdk_42_method_3_code_2) (XS.aloadN X0.here hx rfl (hb hby own_d_jdk_42_method_3_code_3) rfl rfl (own_alen X0 hx hZ e0 P0 rfl rfl (hb hby own_d_jdk_42_method_3_code_4) (XS.aconstNull X0.here hx rfl (hb hby own_d_jdk_42_method_3_code_5) hr)))))) ?_
  show own_Go p e below _ (s₁.setTop (mkF m 6 #[.val (.ref o0), .val (.ref o1)] [.null, (.int (2 : Int32)), (.int (0 : Int32)), (.ref o1), (.ref o0)]))
  refine own_cp X0 hx hZ hown rfl (hw _ (own_m 11 rfl)) (hw _ (own_m 12 rfl)) (hw _ (own_m 6 rfl)) (hw _ (own_m 14 rfl)) (by decide) (rm := { frames := 2, cells := 1, slots := 2, locals := 35 }) (rm_init_13 l Z a0 hw [] o0 o1 y2 y0 y1 kc0 h0 n0 Z0 P1 P0 P3 P4 P5 ge0p hb0 hb1 hb2 hb3 hb4) (by decide) (W := 0) (by decide) (by decide) (by decide) e0 (by rw [hml]; rfl) (argsL := [(.ref o1), (.int (0 : Int32)), (.int (2 : Int32)), .null]) (lenOf own_pd0 rfl) (rest := []) rfl rfl (Nat.le_of_eq rfl) (hb hby own_d_jdk_42_method_3_code_6) ?_
  intro _ T1 L1 X1 hQ1
  obtain ⟨b1_0, kb1_0, rfl, N1q, K1, ge1_0, sz1_0, f1_0, f1_1, f1_2, f1_3⟩ := hQ1
  have N1 := Fr.app N0 N1q
  have sz2 : h0.size ≤ b1_0 := Nat.le_trans K0.1 sz1_0
  show own_Go p e below _ (T1.setTop (mkF m 9 #[.val (.ref o0), .val (.ref o1)] []))
  have K3 := (K0.trans K1 (allS (Or.inl (List.mem_of_getElem? (i := 0) rfl)) all0))
  exact own_ret0 X1 hx hlk Bd.returns (hb hby own_d_jdk_42_method_3_code_9) (by decide) (by decide) (by exact ⟨b1_0, kb1_0, rfl, N1, K3, ge1_0, sz2, f1_0, f1_1, f1_2, f1_3⟩)
theorem own_d_method_2_code_70 : decode method_2_code 70 = .ok (.areturn, 1) := by decide +kernel
def own_mkl (cc_ len : Int32) : List Value := if len = 0 then [] else if len = 1 then [.int (((cc_ &&& (255 : Int32)).toUInt32.toUInt16.toUInt32.toInt32).toInt8.toInt32)] else [.int (((cc_ &&& (255 : Int32)).toUInt32.toUInt16.toUInt32.toInt32).toInt8.toInt32), .int (((((cc_.toUInt32 >>> ((8 : Int32) &&& 31).toUInt32).toInt32) &&& (255 : Int32)).toUInt32.toUInt16.toUInt32.toInt32).toInt8.toInt32)]
theorem own_pn_com_example_appenddb_appenddb_TopicQueueEqualsPinLaw : plainName "com/example/appenddb/appenddb/TopicQueueEqualsPinLaw" = true := by first | (simp [plainName, overriddenIn]; done) | decide +kernel
def Q_mk (Z : State) (cc_ : Int32) (len : Int32) (h0 : Heap) (n0 : Nat) (v : Option Value) (h : Heap) (L : List Loc) : Prop := (∃ (a b : Addr) (k : ClassId), v = some (.ref a) ∧ Fr n0 L ∧ Keep h0 h [] ∧ n0 ≤ a ∧ h0.size ≤ a ∧ Exa Z h a "java/lang/String" ∧ Fld Z h a "java/lang/String" "coder" "B" (.int (0 : Int32)) ∧ Fld Z h a "java/lang/String" "value" "[B" (.ref b) ∧ Arv Z h b k .byte len (own_mkl cc_ len) (.int (0 : Int32)))
set_option maxRecDepth 65536 in
set_option maxHeartbeats 40000000 in
theorem rm_mk (l : Launch) (Z : State) (a0 : Array Value) (hw : ∀ d ∈ tables_1, d.before a0 Z = true) (ws : List Jvm.Cond) (cc_ : Int32) (len : Int32) (i_COMPACT_STRINGS : Int32) (h0 : Heap) (n0 : Nat) (Z0 : n0 ≤ h0.size) (S_COMPACT_STRINGS : Sta Z h0 "java/lang/String" "COMPACT_STRINGS" "Z" (.int i_COMPACT_STRINGS)) (hs_COMPACT_STRINGS : ¬ (i_COMPACT_STRINGS = (0 : Int32))) (hl0 : ¬ (len < (0 : Int32))) (hl2 : ¬ ((2 : Int32) < len)) :
    MetFree l (⟨"com/example/appenddb/appenddb/TopicQueueEqualsPinLaw", "mk", "(II)Ljava/lang/String;"⟩ : MethodName) (head1 (Jvm.Cond.code (⟨"com/example/appenddb/appenddb/TopicQueueEqualsPinLaw", "mk", "(II)Ljava/lang/String;"⟩ : MethodName) method_2_code 4 (some (.object "java/lang/String")) :: ws) ({ frames := 4, cells := 6, slots := 12, locals := 66 } : Room)) (fun aA U => aA = #[(.int cc_), (.int len)] ∧ Z.Warmed39 U.vm ∧ U.heap = h0 ∧ CHv Z own_EL U.vm h0) (fun _ _ _ _ _ => True) (fun _ U o U' => ∃ v L, o = .returned v ∧ Q_mk Z cc_ len h0 n0 v U'.heap L ∧ CHr Z own_EL U.vm U.heap U'.vm U'.heap ∧ ReturnedEndW U o U' L ({ frames := 4, cells := 6, slots := 12, locals := 66 } : Room).cells ({ frames := 4, cells := 6, slots := 12, locals := 66 } : Room).slots) := by
  refine MetFree.of_bodySF (plainFor_of_name own_pn_com_example_appenddb_appenddb_TopicQueueEqualsPinLaw) hisR ?_
  intro p e s m args below meth c s₁ Bd hml0 hP hK
  obtain ⟨rfl, hZ, hh, hC0⟩ := hP
  have hx := Bd.exec
  have hby := Bd.bytes
  have hlk : meth.locks = false := BodyLoose.notSynchronized Bd
  have hml : c.maxLocals = 4 := hml0
  have hown : s.vm.findClass "com/example/appenddb/appenddb/TopicQueueEqualsPinLaw" = some m.cls := findClass_of_methodNamed Bd.named
  have hnm := (name_of_methodNamed Bd.named Bd.method).1
  have X0 : Stand p l e ({ frames := 4, cells := 6, slots := 12, locals := 66 } : Room) (s.setVm s.vm) m #[(.int cc_), (.int len)] below meth c s₁ [] 0 0 := Stand.of_body Bd
  have e0 : s₁.heap = h0 := by rw [← hh, Bd.state]; rfl
  have N0 := Fr.nil n0
  have hS : s.Since s.vm 0 := (State.WarmedH.refl s).since 0
  have hk := Nat.zero_le h0.size
  have hEL : EW Z a0 own_EL := own_ew hw
  have A0 : CHr Z own_EL s.vm h0 s.vm h0 := CHr.refl hC0
  have K0 : Keep h0 h0 [] := Keep.refl _ _
  show own_Go p e below (own_KW Z own_EL s (Q_mk Z cc_ len h0 n0) ({ frames := 4, cells := 6, slots := 12, locals := 66 } : Room).cells ({ frames := 4, cells := 6, slots := 12, locals := 66 } : Room).slots) (s₁.setTop (entryFrame m #[(.int cc_), (.int len)] 4))
  rw [(by first | (simp [entryFrame, mkF, argsToLocals, Value.category]; done) | rfl : entryFrame m #[(.int cc_), (.int len)] 4 = mkF m 0 #[.val (.int cc_), .val (.int len), .unset, .unset] [])]
  show own_Go p e below _ (s₁.setTop (mkF m 0 #[.val (.int cc_), .val (.int len), .unset, .unset] []))
  refine own_go (fun _ hr => XS.iloadN X0.here hx rfl (hb hby own_d_method_2_code_0) rfl (XS.sipush X0.here hx rfl (hb hby own_d_method_2_code_1) (XS.iand X0.here hx rfl (hb hby own_d_method_2_code_4) rfl (XS.i2c X0.here hx rfl (hb hby own_d_method_2_code_5) rfl (XS.istoreN X0.here hx rfl (hb hby own_d_method_2_code_6) rfl (l' := #[.val (.int cc_), .val (.int len), .val (.int ((cc_ &&& (255 : Int32)).toUInt32.toUInt16.toUInt32.toInt32)), .unset]) rfl (XS.iloadN X0.here hx rfl (hb hby own_d_method_2_code_7) rfl (XS.bipush X0.here hx rfl (hb hby own_d_method_2_code_8) (XS.iushr X0.here hx rfl (hb hby own_d_method_2_code_10) rfl (XS.sipush X0.here hx rfl (hb hby own_d_method_2_code_11) (XS.iand X0.here hx rfl (hb hby own_d_method_2_code_14) rfl hr)))))))))) ?_
  show own_Go p e below _ (s₁.setTop (mkF m 15 #[.val (.int cc_), .val (.int len), .val (.int ((cc_ &&& (255 : Int32)).toUInt32.toUInt16.toUInt32.toInt32)), .unset] [(.int (((cc_.toUInt32 >>> ((8 : Int32) &&& 31).toUInt32).toInt32) &&& (255 : Int32)))]))
  refine own_go (fun _ hr => XS.i2c X0.here hx rfl (hb hby own_d_method_2_code_15) rfl (XS.istoreN X0.here hx rfl (hb hby own_d_method_2_code_16) rfl (l' := #[.val (.int cc_), .val (.int len), .val (.int ((cc_ &&& (255 : Int32)).toUInt32.toUInt16.toUInt32.toInt32)), .val (.int ((((cc_.toUInt32 >>> ((8 : Int32) &&& 31).toUInt32).toInt32) &&& (255 : Int32)).toUInt32.toUInt16.toUInt32.toInt32))]) rfl (XS.iloadN X0.here hx rfl (hb hby own_d_method_2_code_17) rfl hr))) ?_
  show own_Go p e below _ (s₁.setTop (mkF m 18 #[.val (.int cc_), .val (.int len), .val (.int ((cc_ &&& (255 : Int32)).toUInt32.toUInt16.toUInt32.toInt32)), .val (.int ((((cc_.toUInt32 >>> ((8 : Int32) &&& 31).toUInt32).toInt32) &&& (255 : Int32)).toUInt32.toUInt16.toUInt32.toInt32))] [(.int len)]))
  rcases Classical.em (len = (0 : Int32)) with c1 | c1
  · skip
    refine own_go (fun _ hr => XS.ifNo X0.here hx rfl (hb hby own_d_method_2_code_18) rfl ((if0 _ _).trans (teq c1).2) hr) ?_
    show own_Go p e below _ (s₁.setTop (mkF m 21 #[.val (.int cc_), .val (.int len), .val (.int ((cc_ &&& (255 : Int32)).toUInt32.toUInt16.toUInt32.toInt32)), .val (.int ((((cc_.toUInt32 >>> ((8 : Int32) &&& 31).toUInt32).toInt32) &&& (255 : Int32)).toUInt32.toUInt16.toUInt32.toInt32))] []))
    obtain ⟨T2, h2, X2, e2, E2, A2, D2, -, st2⟩ := newO X0 hx hZ hown (hw _ (own_m 4 rfl)) (hw _ (own_m 5 rfl)) (hw _ (own_m 6 rfl)) e0 (g := (mkF m 21 #[.val (.int cc_), .val (.int len), .val (.int ((cc_ &&& (255 : Int32)).toUInt32.toUInt16.toUInt32.toInt32)), .val (.int ((((cc_.toUInt32 >>> ((8 : Int32) &&& 31).toUInt32).toInt32) &&& (255 : Int32)).toUInt32.toUInt16.toUInt32.toInt32))] [])) rfl (hb hby own_d_method_2_code_21) (by decide) (by decide)
    obtain ⟨b2, g2⟩ : ∃ z, z = h0.size := ⟨_, rfl⟩
    rw [← g2] at A2 D2 st2
    have ge3 : n0 ≤ b2 := Nat.le_trans Z0 (Nat.le_of_eq g2.symm)
    have sz4 : h0.size ≤ b2 := Nat.le_trans K0.1 (Nat.le_of_eq g2.symm)
    refine own_go st2 ?_
    have f5 : Fld Z h2 b2 "java/lang/String" "value" "[B" .null := D2 (Or.inr (hw _ (own_m 20 rfl))) (ty := (.array .byte)) (by decide)
    have f6 : Fld Z h2 b2 "java/lang/String" "coder" "B" (.int (0 : Int32)) := D2 (Or.inr (hw _ (own_m 21 rfl))) (ty := .byte) (by decide)
    show own_Go p e below _ (T2.setTop (mkF m 24 #[.val (.int cc_), .val (.int len), .val (.int ((cc_ &&& (255 : Int32)).toUInt32.toUInt16.toUInt32.toInt32)), .val (.int ((((cc_.toUInt32 >>> ((8 : Int32) &&& 31).toUInt32).toInt32) &&& (255 : Int32)).toUInt32.toUInt16.toUInt32.toInt32))] [(.ref b2)]))
    refine own_go (fun _ hr => XS.dup X2.here hx rfl (hb hby own_d_method_2_code_24) rfl rfl (XS.iconst X2.here hx rfl (hb hby own_d_method_2_code_25) hr)) ?_
    show own_Go p e below _ (T2.setTop (mkF m 26 #[.val (.int cc_), .val (.int len), .val (.int ((cc_ &&& (255 : Int32)).toUInt32.toUInt16.toUInt32.toInt32)), .val (.int ((((cc_.toUInt32 >>> ((8 : Int32) &&& 31).toUInt32).toInt32) &&& (255 : Int32)).toUInt32.toUInt16.toUInt32.toInt32))] [(.int (0 : Int32)), (.ref b2), (.ref b2)]))
    obtain ⟨T7, h7, k7, X7, e7, E7, A7, EA7, st7⟩ := newPE X2 hx hZ (hw _ (own_m 7 rfl)) e2 (g := (mkF m 26 #[.val (.int cc_), .val (.int len), .val (.int ((cc_ &&& (255 : Int32)).toUInt32.toUInt16.toUInt32.toInt32)), .val (.int ((((cc_.toUInt32 >>> ((8 : Int32) &&& 31).toUInt32).toInt32) &&& (255 : Int32)).toUInt32.toUInt16.toUInt32.toInt32))] [(.int (0 : Int32)), (.ref b2), (.ref b2)])) rfl (hb hby own_d_method_2_code_26) rfl (by decide) (cap := 0) (by decide) (by decide) (by decide) (by decide) (ad := "[C") (by decide)
    obtain ⟨b7, g7⟩ : ∃ z, z = h2.size := ⟨_, rfl⟩
    rw [← g7] at A7 EA7 st7
    have Z8 := (Nat.le_trans Z0 E2.1)
    have ge9 : n0 ≤ b7 := Nat.le_trans Z8 (Nat.le_of_eq g7.symm)
    have K10 := (K0.ext E2)
    have sz11 : h0.size ≤ b7 := Nat.le_trans K10.1 (Nat.le_of_eq g7.symm)
    refine own_go st7 ?_
    have f12 : Arv Z h7 b7 k7 .char (0 : Int32) [] (.int (0 : Int32)) := (Arv.new A7 (by decide)).pad (pad_rep [] (.int (0 : Int32)) 0)
    show own_Go p e below _ (T7.setTop (mkF m 28 #[.val (.int cc_), .val (.int len), .val (.int ((cc_ &&& (255 : Int32)).toUInt32.toUInt16.toUInt32.toInt32)), .val (.int ((((cc_.toUInt32 >>> ((8 : Int32) &&& 31).toUInt32).toInt32) &&& (255 : Int32)).toUInt32.toUInt16.toUInt32.toInt32))] [(.ref b7), (.ref b2), (.ref b2)]))
    have f14 := (A2.ext E7)
    have f15 := (f5.ext E7)
    have f16 := (f6.ext E7)
    have Z17 := (Nat.le_trans Z8 E7.1)
    have hZo18 := hZ
    have A19 := A0.trans (CHr.ext E2 A0.1)
    have A20 := A19.trans (CHr.ext E7 A19.1)
    have hk21 := (Nat.le_trans (Nat.le_trans hk E2.1) E7.1)
    refine own_cpW X7 hx hZ hown rfl (hw _ (own_m 8 rfl)) (hw _ (own_m 9 rfl)) (hw _ (own_m 6 rfl)) (hw _ (own_m 10 rfl)) (by decide) (rm := { frames := 2, cells := 4, slots := 8, locals := 29 }) (rm_init_1 l Z a0 hw [] b2 b7 k7 h7 n0 Z17 f12 f14 f15 f16 ge3) (by decide) (W := 1) (by decide) (by decide) (by decide) e7 hEL A20.1 hS hk21 (by rw [hml]; rfl) (argsL := [(.ref b7)]) (lenOf own_pd1 rfl) (rest := [(.ref b2)]) rfl rfl (Nat.le_of_eq rfl) (hb hby own_d_method_2_code_28) ?_
    intro _ T13 L13 X13 hQ13 Ac13 hS hZ hown
    obtain ⟨b13_0, kb13_0, rfl, N13q, K13, f13_0, f13_1, f13_2⟩ := hQ13
    have N13 := Fr.app N0 N13q
    show own_Go p e below _ (T13.setTop (mkF m 31 #[.val (.int cc_), .val (.int len), .val (.int ((cc_ &&& (255 : Int32)).toUInt32.toUInt16.toUInt32.toInt32)), .val (.int ((((cc_.toUInt32 >>> ((8 : Int32) &&& 31).toUInt32).toInt32) &&& (255 : Int32)).toUInt32.toUInt16.toUInt32.toInt32))] [(.ref b2)]))
    have f22 := (f14.keep K13)
    have el23 : len = (0 : Int32) := c1
    have ev24 : (own_mkl cc_ len) = [] := by first | (rw [el23]; rfl) | (rw [el23]; simp [own_mkl]; done) | (simp [own_mkl, hs_COMPACT_STRINGS, hl0, hl2, c1]; done)
    have eb25 : Arv Z T13.heap b13_0 kb13_0 .byte len (own_mkl cc_ len) (.int (0 : Int32)) := by rw [ev24, el23]; exact f13_2
    have K26 := ((K10.ext E7).trans K13 (allS (Or.inr sz4) all0))
    have A27 := A20.trans Ac13
    exact own_retRW X13 hx hlk Bd.returns hS (Nat.le_refl _) hZ hEL hh rfl A27 rfl rfl (hb hby own_d_method_2_code_31) (by decide) (by decide) (by exact ⟨b2, b13_0, kb13_0, rfl, N13, K26, ge3, sz4, f22, f13_0, f13_1, eb25⟩)
  refine own_go (fun _ hr => XS.ifYes X0.here hx rfl (pc0 := 18) (pc' := 32) rfl (hb hby own_d_method_2_code_18) rfl ((if0 _ _).trans (feq c1).2) (by decide) (by decide) hr) ?_
  show own_Go p e below _ (s₁.setTop (mkF m 32 #[.val (.int cc_), .val (.int len), .val (.int ((cc_ &&& (255 : Int32)).toUInt32.toUInt16.toUInt32.toInt32)), .val (.int ((((cc_.toUInt32 >>> ((8 : Int32) &&& 31).toUInt32).toInt32) &&& (255 : Int32)).toUInt32.toUInt16.toUInt32.toInt32))] []))
  refine own_go (fun _ hr => XS.iloadN X0.here hx rfl (hb hby own_d_method_2_code_32) rfl (XS.iconst X0.here hx rfl (hb hby own_d_method_2_code_33) hr)) ?_
  show own_Go p e below _ (s₁.setTop (mkF m 34 #[.val (.int cc_), .val (.int len), .val (.int ((cc_ &&& (255 : Int32)).toUInt32.toUInt16.toUInt32.toInt32)), .val (.int ((((cc_.toUInt32 >>> ((8 : Int32) &&& 31).toUInt32).toInt32) &&& (255 : Int32)).toUInt32.toUInt16.toUInt32.toInt32))] [(.int (1 : Int32)), (.int len)]))
  rcases Classical.em (len = (1 : Int32)) with c28 | c28
  · skip
    refine own_go (fun _ hr => XS.icmpNo X0.here hx rfl (hb hby own_d_method_2_code_34) rfl (teq c28).2 hr) ?_
    show own_Go p e below _ (s₁.setTop (mkF m 37 #[.val (.int cc_), .val (.int len), .val (.int ((cc_ &&& (255 : Int32)).toUInt32.toUInt16.toUInt32.toInt32)), .val (.int ((((cc_.toUInt32 >>> ((8 : Int32) &&& 31).toUInt32).toInt32) &&& (255 : Int32)).toUInt32.toUInt16.toUInt32.toInt32))] []))
    obtain ⟨T29, h29, X29, e29, E29, A29, D29, -, st29⟩ := newO X0 hx hZ hown (hw _ (own_m 4 rfl)) (hw _ (own_m 5 rfl)) (hw _ (own_m 6 rfl)) e0 (g := (mkF m 37 #[.val (.int cc_), .val (.int len), .val (.int ((cc_ &&& (255 : Int32)).toUInt32.toUInt16.toUInt32.toInt32)), .val (.int ((((cc_.toUInt32 >>> ((8 : Int32) &&& 31).toUInt32).toInt32) &&& (255 : Int32)).toUInt32.toUInt16.toUInt32.toInt32))] [])) rfl (hb hby own_d_method_2_code_37) (by decide) (by decide)
    obtain ⟨b29, g29⟩ : ∃ z, z = h0.size := ⟨_, rfl⟩
    rw [← g29] at A29 D29 st29
    have ge30 : n0 ≤ b29 := Nat.le_trans Z0 (Nat.le_of_eq g29.symm)
    have sz31 : h0.size ≤ b29 := Nat.le_trans K0.1 (Nat.le_of_eq g29.symm)
    refine own_go st29 ?_
    have f32 : Fld Z h29 b29 "java/lang/String" "value" "[B" .null := D29 (Or.inr (hw _ (own_m 20 rfl))) (ty := (.array .byte)) (by decide)
    have f33 : Fld Z h29 b29 "java/lang/String" "coder" "B" (.int (0 : Int32)) := D29 (Or.inr (hw _ (own_m 21 rfl))) (ty := .byte) (by decide)
    show own_Go p e below _ (T29.setTop (mkF m 40 #[.val (.int cc_), .val (.int len), .val (.int ((cc_ &&& (255 : Int32)).toUInt32.toUInt16.toUInt32.toInt32)), .val (.int ((((cc_.toUInt32 >>> ((8 : Int32) &&& 31).toUInt32).toInt32) &&& (255 : Int32)).toUInt32.toUInt16.toUInt32.toInt32))] [(.ref b29)]))
    refine own_go (fun _ hr => XS.dup X29.here hx rfl (hb hby own_d_method_2_code_40) rfl rfl (XS.iconst X29.here hx rfl (hb hby own_d_method_2_code_41) hr)) ?_
    show own_Go p e below _ (T29.setTop (mkF m 42 #[.val (.int cc_), .val (.int len), .val (.int ((cc_ &&& (255 : Int32)).toUInt32.toUInt16.toUInt32.toInt32)), .val (.int ((((cc_.toUInt32 >>> ((8 : Int32) &&& 31).toUInt32).toInt32) &&& (255 : Int32)).toUInt32.toUInt16.toUInt32.toInt32))] [(.int (1 : Int32)), (.ref b29), (.ref b29)]))
    obtain ⟨T34, h34, k34, X34, e34, E34, A34, EA34, st34⟩ := newPE X29 hx hZ (hw _ (own_m 7 rfl)) e29 (g := (mkF m 42 #[.val (.int cc_), .val (.int len), .val (.int ((cc_ &&& (255 : Int32)).toUInt32.toUInt16.toUInt32.toInt32)), .val (.int ((((cc_.toUInt32 >>> ((8 : Int32) &&& 31).toUInt32).toInt32) &&& (255 : Int32)).toUInt32.toUInt16.toUInt32.toInt32))] [(.int (1 : Int32)), (.ref b29), (.ref b29)])) rfl (hb hby own_d_method_2_code_42) rfl (by decide) (cap := 1) (by decide) (by decide) (by decide) (by decide) (ad := "[C") (by decide)
    obtain ⟨b34, g34⟩ : ∃ z, z = h29.size := ⟨_, rfl⟩
    rw [← g34] at A34 EA34 st34
    have Z35 := (Nat.le_trans Z0 E29.1)
    have ge36 : n0 ≤ b34 := Nat.le_trans Z35 (Nat.le_of_eq g34.symm)
    have K37 := (K0.ext E29)
    have sz38 : h0.size ≤ b34 := Nat.le_trans K37.1 (Nat.le_of_eq g34.symm)
    refine own_go st34 ?_
    have f39 : Arv Z h34 b34 k34 .char (1 : Int32) [(.int (0 : Int32))] (.int (0 : Int32)) := (Arv.new A34 (by decide)).pad (pad_rep [] (.int (0 : Int32)) 1)
    show own_Go p e below _ (T34.setTop (mkF m 44 #[.val (.int cc_), .val (.int len), .val (.int ((cc_ &&& (255 : Int32)).toUInt32.toUInt16.toUInt32.toInt32)), .val (.int ((((cc_.toUInt32 >>> ((8 : Int32) &&& 31).toUInt32).toInt32) &&& (255 : Int32)).toUInt32.toUInt16.toUInt32.toInt32))] [(.ref b34), (.ref b29), (.ref b29)]))
    refine own_go (fun _ hr => XS.dup X34.here hx rfl (hb hby own_d_method_2_code_44) rfl rfl (XS.iconst X34.here hx rfl (hb hby own_d_method_2_code_45) (XS.iloadN X34.here hx rfl (hb hby own_d_method_2_code_46) rfl hr))) ?_
    show own_Go p e below _ (T34.setTop (mkF m 47 #[.val (.int cc_), .val (.int len), .val (.int ((cc_ &&& (255 : Int32)).toUInt32.toUInt16.toUInt32.toInt32)), .val (.int ((((cc_.toUInt32 >>> ((8 : Int32) &&& 31).toUInt32).toInt32) &&& (255 : Int32)).toUInt32.toUInt16.toUInt32.toInt32))] [(.int ((cc_ &&& (255 : Int32)).toUInt32.toUInt16.toUInt32.toInt32)), (.int (0 : Int32)), (.ref b34), (.ref b34), (.ref b29), (.ref b29)]))
    have c41 : (nar .char ((cc_ &&& (255 : Int32)).toUInt32.toUInt16.toUInt32.toInt32)) = ((cc_ &&& (255 : Int32)).toUInt32.toUInt16.toUInt32.toInt32) := by
      have q0 := rng32 cc_
      have q1 := c_mask cc_ (255 : Int32) 8 (by decide) (by decide)
      have q2 := c_i2c (cc_ &&& (255 : Int32))
      have q3 := (show ((nar .char ((cc_ &&& (255 : Int32)).toUInt32.toUInt16.toUInt32.toInt32)).toInt - ((cc_ &&& (255 : Int32)).toUInt32.toUInt16.toUInt32.toInt32).toInt) % 65536 = 0 ∧ 0 ≤ (nar .char ((cc_ &&& (255 : Int32)).toUInt32.toUInt16.toUInt32.toInt32)).toInt ∧ (nar .char ((cc_ &&& (255 : Int32)).toUInt32.toUInt16.toUInt32.toInt32)).toInt < 65536 from c_i2c ((cc_ &&& (255 : Int32)).toUInt32.toUInt16.toUInt32.toInt32))
      simp only [true_implies, Int32.lt_iff_toInt_lt, ← Int32.toInt_inj, Int32.reduceToInt, Int64.lt_iff_toInt_lt, ← Int64.toInt_inj, Int64.reduceToInt] at q0 q1 q2 q3 ⊢
      omega
    refine own_stC X34 hx hZ e34 f39 (0 : Int32) ((cc_ &&& (255 : Int32)).toUInt32.toUInt16.toUInt32.toInt32) ((cc_ &&& (255 : Int32)).toUInt32.toUInt16.toUInt32.toInt32) 0 ⟨by decide, by decide⟩ rfl (Nat.le_of_ble_eq_true rfl) c41 [(.int ((cc_ &&& (255 : Int32)).toUInt32.toUInt16.toUInt32.toInt32))] rfl N0 ge36 (hb hby own_d_method_2_code_47) ?_
    intro T40 h40 L40 X40 e40 W40 N40 f40
    show own_Go p e below _ (T40.setTop (mkF m 48 #[.val (.int cc_), .val (.int len), .val (.int ((cc_ &&& (255 : Int32)).toUInt32.toUInt16.toUInt32.toInt32)), .val (.int ((((cc_.toUInt32 >>> ((8 : Int32) &&& 31).toUInt32).toInt32) &&& (255 : Int32)).toUInt32.toUInt16.toUInt32.toInt32))] [(.ref b34), (.ref b29), (.ref b29)]))
    have c42 : ¬ ((255 : Int32) < ((cc_ &&& (255 : Int32)).toUInt32.toUInt16.toUInt32.toInt32)) := by
      have q0 := rng32 cc_
      have q1 := c_mask cc_ (255 : Int32) 8 (by decide) (by decide)
      have q2 := c_i2c (cc_ &&& (255 : Int32))
      have q3 := (show ((nar .char ((cc_ &&& (255 : Int32)).toUInt32.toUInt16.toUInt32.toInt32)).toInt - ((cc_ &&& (255 : Int32)).toUInt32.toUInt16.toUInt32.toInt32).toInt) % 65536 = 0 ∧ 0 ≤ (nar .char ((cc_ &&& (255 : Int32)).toUInt32.toUInt16.toUInt32.toInt32)).toInt ∧ (nar .char ((cc_ &&& (255 : Int32)).toUInt32.toUInt16.toUInt32.toInt32)).toInt < 65536 from c_i2c ((cc_ &&& (255 : Int32)).toUInt32.toUInt16.toUInt32.toInt32))
      have p0 := c41
      simp only [true_implies, Int32.lt_iff_toInt_lt, ← Int32.toInt_inj, Int32.reduceToInt, Int64.lt_iff_toInt_lt, ← Int64.toInt_inj, Int64.reduceToInt] at q0 q1 q2 q3 p0 ⊢
      omega
    have c43 : (nar .byte (((cc_ &&& (255 : Int32)).toUInt32.toUInt16.toUInt32.toInt32).toInt8.toInt32)) = (((cc_ &&& (255 : Int32)).toUInt32.toUInt16.toUInt32.toInt32).toInt8.toInt32) := by
      have q0 := rng32 cc_
      have q1 := c_mask cc_ (255 : Int32) 8 (by decide) (by decide)
      have q2 := c_i2c (cc_ &&& (255 : Int32))
      have q3 := (show ((nar .char ((cc_ &&& (255 : Int32)).toUInt32.toUInt16.toUInt32.toInt32)).toInt - ((cc_ &&& (255 : Int32)).toUInt32.toUInt16.toUInt32.toInt32).toInt) % 65536 = 0 ∧ 0 ≤ (nar .char ((cc_ &&& (255 : Int32)).toUInt32.toUInt16.toUInt32.toInt32)).toInt ∧ (nar .char ((cc_ &&& (255 : Int32)).toUInt32.toUInt16.toUInt32.toInt32)).toInt < 65536 from c_i2c ((cc_ &&& (255 : Int32)).toUInt32.toUInt16.toUInt32.toInt32))
      have q4 := c_i2b ((cc_ &&& (255 : Int32)).toUInt32.toUInt16.toUInt32.toInt32)
      have q5 := (show ((nar .byte (((cc_ &&& (255 : Int32)).toUInt32.toUInt16.toUInt32.toInt32).toInt8.toInt32)).toInt - (((cc_ &&& (255 : Int32)).toUInt32.toUInt16.toUInt32.toInt32).toInt8.toInt32).toInt) % 256 = 0 ∧ -128 ≤ (nar .byte (((cc_ &&& (255 : Int32)).toUInt32.toUInt16.toUInt32.toInt32).toInt8.toInt32)).toInt ∧ (nar .byte (((cc_ &&& (255 : Int32)).toUInt32.toUInt16.toUInt32.toInt32).toInt8.toInt32)).toInt < 128 from c_i2b (((cc_ &&& (255 : Int32)).toUInt32.toUInt16.toUInt32.toInt32).toInt8.toInt32))
      have p0 := c41
      have p1 := c42
      simp only [true_implies, Int32.lt_iff_toInt_lt, ← Int32.toInt_inj, Int32.reduceToInt, Int64.lt_iff_toInt_lt, ← Int64.toInt_inj, Int64.reduceToInt] at q0 q1 q2 q3 q4 q5 p0 p1 ⊢
      omega
    have K45 := ((K37.ext E34).wr W40 (Or.inr sz38))
    have f46 := (own_sta_keep S_COMPACT_STRINGS K45 all0)
    have f47 := ((A29.ext E34).wr W40)
    have f48 := ((f33.ext E34).other W40 (Or.inl (Nat.ne_of_lt (Nat.lt_of_lt_of_le A29.lt (Nat.le_of_eq g34.symm)))))
    have f49 := ((f32.ext E34).other W40 (Or.inl (Nat.ne_of_lt (Nat.lt_of_lt_of_le A29.lt (Nat.le_of_eq g34.symm)))))
    have Z50 := (Nat.le_trans (Nat.le_trans Z35 E34.1) (Nat.le_of_eq W40.size.symm))
    refine own_cp X40 hx hZ hown rfl (hw _ (own_m 8 rfl)) (hw _ (own_m 9 rfl)) (hw _ (own_m 6 rfl)) (hw _ (own_m 10 rfl)) (by decide) (rm := { frames := 3, cells := 1, slots := 1, locals := 52 }) (rm_init_6 l Z a0 hw [] b29 b34 ((cc_ &&& (255 : Int32)).toUInt32.toUInt16.toUInt32.toInt32) k34 i_COMPACT_STRINGS h40 n0 Z50 f40 f46 f47 f48 f49 ge30 hs_COMPACT_STRINGS c42 c43) (by decide) (W := 1) (by decide) (by decide) (by decide) e40 (by rw [hml]; rfl) (argsL := [(.ref b34)]) (lenOf own_pd1 rfl) (rest := [(.ref b29)]) rfl rfl (Nat.le_of_eq rfl) (hb hby own_d_method_2_code_48) ?_
    intro _ T44 L44 X44 hQ44
    obtain ⟨b44_0, kb44_0, rfl, N44q, K44, ge44_0, sz44_0, f44_0, f44_1, f44_2, f44_3⟩ := hQ44
    have N44 := Fr.app N40 N44q
    have sz51 : h0.size ≤ b44_0 := Nat.le_trans K45.1 sz44_0
    show own_Go p e below _ (T44.setTop (mkF m 51 #[.val (.int cc_), .val (.int len), .val (.int ((cc_ &&& (255 : Int32)).toUInt32.toUInt16.toUInt32.toInt32)), .val (.int ((((cc_.toUInt32 >>> ((8 : Int32) &&& 31).toUInt32).toInt32) &&& (255 : Int32)).toUInt32.toUInt16.toUInt32.toInt32))] [(.ref b29)]))
    have f52 := (f47.keep K44)
    have el53 : len = (1 : Int32) := c28
    have ev54 : (own_mkl cc_ len) = [(.int (((cc_ &&& (255 : Int32)).toUInt32.toUInt16.toUInt32.toInt32).toInt8.toInt32))] := by first | (rw [el53]; rfl) | (rw [el53]; simp [own_mkl]; done) | (simp [own_mkl, hs_COMPACT_STRINGS, hl0, hl2, c1, c28, c41, c42, c43]; done)
    have eb55 : Arv Z T44.heap b44_0 kb44_0 .byte len (own_mkl cc_ len) (.int (0 : Int32)) := by rw [ev54, el53]; exact f44_3
    have K56 := (K45.trans K44 (allS (Or.inr sz31) all0))
    have hk57 := (Nat.le_trans (Nat.le_trans (Nat.le_trans (Nat.le_trans hk E29.1) E34.1) (Nat.le_of_eq W40.size.symm)) K44.1)
    have A58 := A0.trans (CHr.ext E29 A0.1)
    have A59 := A58.trans (CHr.ext E34 A58.1)
    have sf61 := (Safe.ext E34 A58.1 (Safe.new (Nat.le_of_eq g34.symm)))
    have A60 := A59.trans (CHr.wr W40 sf61 A59.1)
    have sf63 := (Safe.wr W40 sf61 A59.1 (Safe.ext E34 A58.1 (Safe.ext E29 A0.1 (Safe.new (Nat.le_of_eq g29.symm)))))
    have A62 := A60.trans (CHr.keep K44 (sfS sf63 sf0) A60.1)
    exact own_retRW X44 hx hlk Bd.returns hS hk57 hZ hEL hh rfl A62 rfl rfl (hb hby own_d_method_2_code_51) (by decide) (by decide) (by exact ⟨b29, b44_0, kb44_0, rfl, N44, K56, ge30, sz31, f52, f44_0, f44_1, eb55⟩)
  refine own_go (fun _ hr => XS.icmpYes X0.here hx rfl (pc0 := 34) (pc' := 52) rfl (hb hby own_d_method_2_code_34) rfl (feq c28).2 (by decide) (by decide) hr) ?_
  show own_Go p e below _ (s₁.setTop (mkF m 52 #[.val (.int cc_), .val (.int len), .val (.int ((cc_ &&& (255 : Int32)).toUInt32.toUInt16.toUInt32.toInt32)), .val (.int ((((cc_.toUInt32 >>> ((8 : Int32) &&& 31).toUInt32).toInt32) &&& (255 : Int32)).toUInt32.toUInt16.toUInt32.toInt32))] []))
  obtain ⟨T64, h64, X64, e64, E64, A64, D64, -, st64⟩ := newO X0 hx hZ hown (hw _ (own_m 4 rfl)) (hw _ (own_m 5 rfl)) (hw _ (own_m 6 rfl)) e0 (g := (mkF m 52 #[.val (.int cc_), .val (.int len), .val (.int ((cc_ &&& (255 : Int32)).toUInt32.toUInt16.toUInt32.toInt32)), .val (.int ((((cc_.toUInt32 >>> ((8 : Int32) &&& 31).toUInt32).toInt32) &&& (255 : Int32)).toUInt32.toUInt16.toUInt32.toInt32))] [])) rfl (hb hby own_d_method_2_code_52) (by decide) (by decide)
  obtain ⟨b64, g64⟩ : ∃ z, z = h0.size := ⟨_, rfl⟩
  rw [← g64] at A64 D64 st64
  have ge65 : n0 ≤ b64 := Nat.le_trans Z0 (Nat.le_of_eq g64.symm)
  have sz66 : h0.size ≤ b64 := Nat.le_trans K0.1 (Nat.le_of_eq g64.symm)
  refine own_go st64 ?_
  have f67 : Fld Z h64 b64 "java/lang/String" "value" "[B" .null := D64 (Or.inr (hw _ (own_m 20 rfl))) (ty := (.array .byte)) (by decide)
  have f68 : Fld Z h64 b64 "java/lang/String" "coder" "B" (.int (0 : Int32)) := D64 (Or.inr (hw _ (own_m 21 rfl))) (ty := .byte) (by decide)
  show own_Go p e below _ (T64.setTop (mkF m 55 #[.val (.int cc_), .val (.int len), .val (.int ((cc_ &&& (255 : Int32)).toUInt32.toUInt16.toUInt32.toInt32)), .val (.int ((((cc_.toUInt32 >>> ((8 : Int32) &&& 31).toUInt32).toInt32) &&& (255 : Int32)).toUInt32.toUInt16.toUInt32.toInt32))] [(.ref b64)]))
  refine own_go (fun _ hr => XS.dup X64.here hx rfl (hb hby own_d_method_2_code_55) rfl rfl (XS.iconst X64.here hx rfl (hb hby own_d_method_2_code_56) hr)) ?_
  show own_Go p e below _ (T64.setTop (mkF m 57 #[.val (.int cc_), .val (.int len), .val (.int ((cc_ &&& (255 : Int32)).toUInt32.toUInt16.toUInt32.toInt32)), .val (.int ((((cc_.toUInt32 >>> ((8 : Int32) &&& 31).toUInt32).toInt32) &&& (255 : Int32)).toUInt32.toUInt16.toUInt32.toInt32))] [(.int (2 : Int32)), (.ref b64), (.ref b64)]))
  obtain ⟨T69, h69, k69, X69, e69, E69, A69, EA69, st69⟩ := newPE X64 hx hZ (hw _ (own_m 7 rfl)) e64 (g := (mkF m 57 #[.val (.int cc_), .val (.int len), .val (.int ((cc_ &&& (255 : Int32)).toUInt32.toUInt16.toUInt32.toInt32)), .val (.int ((((cc_.toUInt32 >>> ((8 : Int32) &&& 31).toUInt32).toInt32) &&& (255 : Int32)).toUInt32.toUInt16.toUInt32.toInt32))] [(.int (2 : Int32)), (.ref b64), (.ref b64)])) rfl (hb hby own_d_method_2_code_57) rfl (by decide) (cap := 2) (by decide) (by decide) (by decide) (by decide) (ad := "[C") (by decide)
  obtain ⟨b69, g69⟩ : ∃ z, z = h64.size := ⟨_, rfl⟩
  rw [← g69] at A69 EA69 st69
  have Z70 := (Nat.le_trans Z0 E64.1)
  have ge71 : n0 ≤ b69 := Nat.le_trans Z70 (Nat.le_of_eq g69.symm)
  have K72 := (K0.ext E64)
  have sz73 : h0.size ≤ b69 := Nat.le_trans K72.1 (Nat.le_of_eq g69.symm)
  refine own_go st69 ?_
  have f74 : Arv Z h69 b69 k69 .char (2 : Int32) [(.int (0 : Int32)), (.int (0 : Int32))] (.int (0 : Int32)) := (Arv.new A69 (by decide)).pad (pad_rep [] (.int (0 : Int32)) 2)
  show own_Go p e below _ (T69.setTop (mkF m 59 #[.val (.int cc_), .val (.int len), .val (.int ((cc_ &&& (255 : Int32)).toUInt32.toUInt16.toUInt32.toInt32)), .val (.int ((((cc_.toUInt32 >>> ((8 : Int32) &&& 31).toUInt32).toInt32) &&& (255 : Int32)).toUInt32.toUInt16.toUInt32.toInt32))] [(.ref b69), (.ref b64), (.ref b64)]))
  refine own_go (fun _ hr => XS.dup X69.here hx rfl (hb hby own_d_method_2_code_59) rfl rfl (XS.iconst X69.here hx rfl (hb hby own_d_method_2_code_60) (XS.iloadN X69.here hx rfl (hb hby own_d_method_2_code_61) rfl hr))) ?_
  show own_Go p e below _ (T69.setTop (mkF m 62 #[.val (.int cc_), .val (.int len), .val (.int ((cc_ &&& (255 : Int32)).toUInt32.toUInt16.toUInt32.toInt32)), .val (.int ((((cc_.toUInt32 >>> ((8 : Int32) &&& 31).toUInt32).toInt32) &&& (255 : Int32)).toUInt32.toUInt16.toUInt32.toInt32))] [(.int ((cc_ &&& (255 : Int32)).toUInt32.toUInt16.toUInt32.toInt32)), (.int (0 : Int32)), (.ref b69), (.ref b69), (.ref b64), (.ref b64)]))
  have c76 : (nar .char ((cc_ &&& (255 : Int32)).toUInt32.toUInt16.toUInt32.toInt32)) = ((cc_ &&& (255 : Int32)).toUInt32.toUInt16.toUInt32.toInt32) := by
    have q0 := rng32 cc_
    have q1 := c_mask cc_ (255 : Int32) 8 (by decide) (by decide)
    have q2 := c_i2c (cc_ &&& (255 : Int32))
    have q3 := (show ((nar .char ((cc_ &&& (255 : Int32)).toUInt32.toUInt16.toUInt32.toInt32)).toInt - ((cc_ &&& (255 : Int32)).toUInt32.toUInt16.toUInt32.toInt32).toInt) % 65536 = 0 ∧ 0 ≤ (nar .char ((cc_ &&& (255 : Int32)).toUInt32.toUInt16.toUInt32.toInt32)).toInt ∧ (nar .char ((cc_ &&& (255 : Int32)).toUInt32.toUInt16.toUInt32.toInt32)).toInt < 65536 from c_i2c ((cc_ &&& (255 : Int32)).toUInt32.toUInt16.toUInt32.toInt32))
    simp only [true_implies, Int32.lt_iff_toInt_lt, ← Int32.toInt_inj, Int32.reduceToInt, Int64.lt_iff_toInt_lt, ← Int64.toInt_inj, Int64.reduceToInt] at q0 q1 q2 q3 ⊢
    omega
  refine own_stC X69 hx hZ e69 f74 (0 : Int32) ((cc_ &&& (255 : Int32)).toUInt32.toUInt16.toUInt32.toInt32) ((cc_ &&& (255 : Int32)).toUInt32.toUInt16.toUInt32.toInt32) 0 ⟨by decide, by decide⟩ rfl (Nat.le_of_ble_eq_true rfl) c76 [(.int ((cc_ &&& (255 : Int32)).toUInt32.toUInt16.toUInt32.toInt32)), (.int (0 : Int32))] rfl N0 ge71 (hb hby own_d_method_2_code_62) ?_
  intro T75 h75 L75 X75 e75 W75 N75 f75
  show own_Go p e below _ (T75.setTop (mkF m 63 #[.val (.int cc_), .val (.int len), .val (.int ((cc_ &&& (255 : Int32)).toUInt32.toUInt16.toUInt32.toInt32)), .val (.int ((((cc_.toUInt32 >>> ((8 : Int32) &&& 31).toUInt32).toInt32) &&& (255 : Int32)).toUInt32.toUInt16.toUInt32.toInt32))] [(.ref b69), (.ref b64), (.ref b64)]))
  refine own_go (fun _ hr => XS.dup X75.here hx rfl (hb hby own_d_method_2_code_63) rfl rfl (XS.iconst X75.here hx rfl (hb hby own_d_method_2_code_64) (XS.iloadN X75.here hx rfl (hb hby own_d_method_2_code_65) rfl hr))) ?_
  show own_Go p e below _ (T75.setTop (mkF m 66 #[.val (.int cc_), .val (.int len), .val (.int ((cc_ &&& (255 : Int32)).toUInt32.toUInt16.toUInt32.toInt32)), .val (.int ((((cc_.toUInt32 >>> ((8 : Int32) &&& 31).toUInt32).toInt32) &&& (255 : Int32)).toUInt32.toUInt16.toUInt32.toInt32))] [(.int ((((cc_.toUInt32 >>> ((8 : Int32) &&& 31).toUInt32).toInt32) &&& (255 : Int32)).toUInt32.toUInt16.toUInt32.toInt32)), (.int (1 : Int32)), (.ref b69), (.ref b69), (.ref b64), (.ref b64)]))
  have c78 : (nar .char ((((cc_.toUInt32 >>> ((8 : Int32) &&& 31).toUInt32).toInt32) &&& (255 : Int32)).toUInt32.toUInt16.toUInt32.toInt32)) = ((((cc_.toUInt32 >>> ((8 : Int32) &&& 31).toUInt32).toInt32) &&& (255 : Int32)).toUInt32.toUInt16.toUInt32.toInt32) := by
    have q0 := rng32 cc_
    have q1 := c_mask cc_ (255 : Int32) 8 (by decide) (by decide)
    have q2 := c_i2c (cc_ &&& (255 : Int32))
    have q3 := (show ((nar .char ((cc_ &&& (255 : Int32)).toUInt32.toUInt16.toUInt32.toInt32)).toInt - ((cc_ &&& (255 : Int32)).toUInt32.toUInt16.toUInt32.toInt32).toInt) % 65536 = 0 ∧ 0 ≤ (nar .char ((cc_ &&& (255 : Int32)).toUInt32.toUInt16.toUInt32.toInt32)).toInt ∧ (nar .char ((cc_ &&& (255 : Int32)).toUInt32.toUInt16.toUInt32.toInt32)).toInt < 65536 from c_i2c ((cc_ &&& (255 : Int32)).toUInt32.toUInt16.toUInt32.toInt32))
    have q4 := c_iushr cc_ (8 : Int32) 8 (by decide) (by decide)
    have q5 := c_mask ((cc_.toUInt32 >>> ((8 : Int32) &&& 31).toUInt32).toInt32) (255 : Int32) 8 (by decide) (by decide)
    have q6 := c_i2c (((cc_.toUInt32 >>> ((8 : Int32) &&& 31).toUInt32).toInt32) &&& (255 : Int32))
    have q7 := (show ((nar .char ((((cc_.toUInt32 >>> ((8 : Int32) &&& 31).toUInt32).toInt32) &&& (255 : Int32)).toUInt32.toUInt16.toUInt32.toInt32)).toInt - ((((cc_.toUInt32 >>> ((8 : Int32) &&& 31).toUInt32).toInt32) &&& (255 : Int32)).toUInt32.toUInt16.toUInt32.toInt32).toInt) % 65536 = 0 ∧ 0 ≤ (nar .char ((((cc_.toUInt32 >>> ((8 : Int32) &&& 31).toUInt32).toInt32) &&& (255 : Int32)).toUInt32.toUInt16.toUInt32.toInt32)).toInt ∧ (nar .char ((((cc_.toUInt32 >>> ((8 : Int32) &&& 31).toUInt32).toInt32) &&& (255 : Int32)).toUInt32.toUInt16.toUInt32.toInt32)).toInt < 65536 from c_i2c ((((cc_.toUInt32 >>> ((8 : Int32) &&& 31).toUInt32).toInt32) &&& (255 : Int32)).toUInt32.toUInt16.toUInt32.toInt32))
    have p0 := c76
    simp only [true_implies, Int32.lt_iff_toInt_lt, ← Int32.toInt_inj, Int32.reduceToInt, Int64.lt_iff_toInt_lt, ← Int64.toInt_inj, Int64.reduceToInt] at q0 q1 q2 q3 q4 q5 q6 q7 p0 ⊢
    omega
  refine own_stC X75 hx hZ e75 f75 (1 : Int32) ((((cc_.toUInt32 >>> ((8 : Int32) &&& 31).toUInt32).toInt32) &&& (255 : Int32)).toUInt32.toUInt16.toUInt32.toInt32) ((((cc_.toUInt32 >>> ((8 : Int32) &&& 31).toUInt32).toInt32) &&& (255 : Int32)).toUInt32.toUInt16.toUInt32.toInt32) 1 ⟨by decide, by decide⟩ rfl (Nat.le_of_ble_eq_true rfl) c78 [(.int ((cc_ &&& (255 : Int32)).toUInt32.toUInt16.toUInt32.toInt32)), (.int ((((cc_.toUInt32 >>> ((8 : Int32) &&& 31).toUInt32).toInt32) &&& (255 : Int32)).toUInt32.toUInt16.toUInt32.toInt32))] rfl N75 ge71 (hb hby own_d_method_2_code_66) ?_
  intro T77 h77 L77 X77 e77 W77 N77 f77
  show own_Go p e below _ (T77.setTop (mkF m 67 #[.val (.int cc_), .val (.int len), .val (.int ((cc_ &&& (255 : Int32)).toUInt32.toUInt16.toUInt32.toInt32)), .val (.int ((((cc_.toUInt32 >>> ((8 : Int32) &&& 31).toUInt32).toInt32) &&& (255 : Int32)).toUInt32.toUInt16.toUInt32.toInt32))] [(.ref b69), (.ref b64), (.ref b64)]))
  have c79 : ¬ ((255 : Int32) < ((cc_ &&& (255 : Int32)).toUInt32.toUInt16.toUInt32.toInt32)) := by
    have q0 := rng32 cc_
    have q1 := c_mask cc_ (255 : Int32) 8 (by decide) (by decide)
    have q2 := c_i2c (cc_ &&& (255 : Int32))
    have q3 := (show ((nar .char ((cc_ &&& (255 : Int32)).toUInt32.toUInt16.toUInt32.toInt32)).toInt - ((cc_ &&& (255 : Int32)).toUInt32.toUInt16.toUInt32.toInt32).toInt) % 65536 = 0 ∧ 0 ≤ (nar .char ((cc_ &&& (255 : Int32)).toUInt32.toUInt16.toUInt32.toInt32)).toInt ∧ (nar .char ((cc_ &&& (255 : Int32)).toUInt32.toUInt16.toUInt32.toInt32)).toInt < 65536 from c_i2c ((cc_ &&& (255 : Int32)).toUInt32.toUInt16.toUInt32.toInt32))
    have q4 := c_iushr cc_ (8 : Int32) 8 (by decide) (by decide)
    have q5 := c_mask ((cc_.toUInt32 >>> ((8 : Int32) &&& 31).toUInt32).toInt32) (255 : Int32) 8 (by decide) (by decide)
    have q6 := c_i2c (((cc_.toUInt32 >>> ((8 : Int32) &&& 31).toUInt32).toInt32) &&& (255 : Int32))
    have q7 := (show ((nar .char ((((cc_.toUInt32 >>> ((8 : Int32) &&& 31).toUInt32).toInt32) &&& (255 : Int32)).toUInt32.toUInt16.toUInt32.toInt32)).toInt - ((((cc_.toUInt32 >>> ((8 : Int32) &&& 31).toUInt32).toInt32) &&& (255 : Int32)).toUInt32.toUInt16.toUInt32.toInt32).toInt) % 65536 = 0 ∧ 0 ≤ (nar .char ((((cc_.toUInt32 >>> ((8 : Int32) &&& 31).toUInt32).toInt32) &&& (255 : Int32)).toUInt32.toUInt16.toUInt32.toInt32)).toInt ∧ (nar .char ((((cc_.toUInt32 >>> ((8 : Int32) &&& 31).toUInt32).toInt32) &&& (255 : Int32)).toUInt32.toUInt16.toUInt32.toInt32)).toInt < 65536 from c_i2c ((((cc_.toUInt32 >>> ((8 : Int32) &&& 31).toUInt32).toInt32) &&& (255 : Int32)).toUInt32.toUInt16.toUInt32.toInt32))
    have p0 := c76
    have p1 := c78
    simp only [true_implies, Int32.lt_iff_toInt_lt, ← Int32.toInt_inj, Int32.reduceToInt, Int64.lt_iff_toInt_lt, ← Int64.toInt_inj, Int64.reduceToInt] at q0 q1 q2 q3 q4 q5 q6 q7 p0 p1 ⊢
    omega
  have c80 : (nar .byte (((cc_ &&& (255 : Int32)).toUInt32.toUInt16.toUInt32.toInt32).toInt8.toInt32)) = (((cc_ &&& (255 : Int32)).toUInt32.toUInt16.toUInt32.toInt32).toInt8.toInt32) := by
    have q0 := rng32 cc_
    have q1 := c_mask cc_ (255 : Int32) 8 (by decide) (by decide)
    have q2 := c_i2c (cc_ &&& (255 : Int32))
    have q3 := (show ((nar .char ((cc_ &&& (255 : Int32)).toUInt32.toUInt16.toUInt32.toInt32)).toInt - ((cc_ &&& (255 : Int32)).toUInt32.toUInt16.toUInt32.toInt32).toInt) % 65536 = 0 ∧ 0 ≤ (nar .char ((cc_ &&& (255 : Int32)).toUInt32.toUInt16.toUInt32.toInt32)).toInt ∧ (nar .char ((cc_ &&& (255 : Int32)).toUInt32.toUInt16.toUInt32.toInt32)).toInt < 65536 from c_i2c ((cc_ &&& (255 : Int32)).toUInt32.toUInt16.toUInt32.toInt32))
    have q4 := c_iushr cc_ (8 : Int32) 8 (by decide) (by decide)
    have q5 := c_mask ((cc_.toUInt32 >>> ((8 : Int32) &&& 31).toUInt32).toInt32) (255 : Int32) 8 (by decide) (by decide)
    have q6 := c_i2c (((cc_.toUInt32 >>> ((8 : Int32) &&& 31).toUInt32).toInt32) &&& (255 : Int32))
    have q7 := (show ((nar .char ((((cc_.toUInt32 >>> ((8 : Int32) &&& 31).toUInt32).toInt32) &&& (255 : Int32)).toUInt32.toUInt16.toUInt32.toInt32)).toInt - ((((cc_.toUInt32 >>> ((8 : Int32) &&& 31).toUInt32).toInt32) &&& (255 : Int32)).toUInt32.toUInt16.toUInt32.toInt32).toInt) % 65536 = 0 ∧ 0 ≤ (nar .char ((((cc_.toUInt32 >>> ((8 : Int32) &&& 31).toUInt32).toInt32) &&& (255 : Int32)).toUInt32.toUInt16.toUInt32.toInt32)).toInt ∧ (nar .char ((((cc_.toUInt32 >>> ((8 : Int32) &&& 31).toUInt32).toInt32) &&& (255 : Int32)).toUInt32.toUInt16.toUInt32.toInt32)).toInt < 65536 from c_i2c ((((cc_.toUInt32 >>> ((8 : Int32) &&& 31).toUInt32).toInt32) &&& (255 : Int32)).toUInt32.toUInt16.toUInt32.toInt32))
    have q8 := c_i2b ((cc_ &&& (255 : Int32)).toUInt32.toUInt16.toUInt32.toInt32)
    have q9 := (show ((nar .byte (((cc_ &&& (255 : Int32)).toUInt32.toUInt16.toUInt32.toInt32).toInt8.toInt32)).toInt - (((cc_ &&& (255 : Int32)).toUInt32.toUInt16.toUInt32.toInt32).toInt8.toInt32).toInt) % 256 = 0 ∧ -128 ≤ (nar .byte (((cc_ &&& (255 : Int32)).toUInt32.toUInt16.toUInt32.toInt32).toInt8.toInt32)).toInt ∧ (nar .byte (((cc_ &&& (255 : Int32)).toUInt32.toUInt16.toUInt32.toInt32).toInt8.toInt32)).toInt < 128 from c_i2b (((cc_ &&& (255 : Int32)).toUInt32.toUInt16.toUInt32.toInt32).toInt8.toInt32))
    have p0 := c76
    have p1 := c78
    have p2 := c79
    simp only [true_implies, Int32.lt_iff_toInt_lt, ← Int32.toInt_inj, Int32.reduceToInt, Int64.lt_iff_toInt_lt, ← Int64.toInt_inj, Int64.reduceToInt] at q0 q1 q2 q3 q4 q5 q6 q7 q8 q9 p0 p1 p2 ⊢
    omega
  have c81 : ¬ ((255 : Int32) < ((((cc_.toUInt32 >>> ((8 : Int32) &&& 31).toUInt32).toInt32) &&& (255 : Int32)).toUInt32.toUInt16.toUInt32.toInt32)) := by
    have q0 := rng32 cc_
    have q1 := c_mask cc_ (255 : Int32) 8 (by decide) (by decide)
    have q2 := c_i2c (cc_ &&& (255 : Int32))
    have q3 := (show ((nar .char ((cc_ &&& (255 : Int32)).toUInt32.toUInt16.toUInt32.toInt32)).toInt - ((cc_ &&& (255 : Int32)).toUInt32.toUInt16.toUInt32.toInt32).toInt) % 65536 = 0 ∧ 0 ≤ (nar .char ((cc_ &&& (255 : Int32)).toUInt32.toUInt16.toUInt32.toInt32)).toInt ∧ (nar .char ((cc_ &&& (255 : Int32)).toUInt32.toUInt16.toUInt32.toInt32)).toInt < 65536 from c_i2c ((cc_ &&& (255 : Int32)).toUInt32.toUInt16.toUInt32.toInt32))
    have q4 := c_iushr cc_ (8 : Int32) 8 (by decide) (by decide)
    have q5 := c_mask ((cc_.toUInt32 >>> ((8 : Int32) &&& 31).toUInt32).toInt32) (255 : Int32) 8 (by decide) (by decide)
    have q6 := c_i2c (((cc_.toUInt32 >>> ((8 : Int32) &&& 31).toUInt32).toInt32) &&& (255 : Int32))
    have q7 := (show ((nar .char ((((cc_.toUInt32 >>> ((8 : Int32) &&& 31).toUInt32).toInt32) &&& (255 : Int32)).toUInt32.toUInt16.toUInt32.toInt32)).toInt - ((((cc_.toUInt32 >>> ((8 : Int32) &&& 31).toUInt32).toInt32) &&& (255 : Int32)).toUInt32.toUInt16.toUInt32.toInt32).toInt) % 65536 = 0 ∧ 0 ≤ (nar .char ((((cc_.toUInt32 >>> ((8 : Int32) &&& 31).toUInt32).toInt32) &&& (255 : Int32)).toUInt32.toUInt16.toUInt32.toInt32)).toInt ∧ (nar .char ((((cc_.toUInt32 >>> ((8 : Int32) &&& 31).toUInt32).toInt32) &&& (255 : Int32)).toUInt32.toUInt16.toUInt32.toInt32)).toInt < 65536 from c_i2c ((((cc_.toUInt32 >>> ((8 : Int32) &&& 31).toUInt32).toInt32) &&& (255 : Int32)).toUInt32.toUInt16.toUInt32.toInt32))
    have q8 := c_i2b ((cc_ &&& (255 : Int32)).toUInt32.toUInt16.toUInt32.toInt32)
    have q9 := (show ((nar .byte (((cc_ &&& (255 : Int32)).toUInt32.toUInt16.toUInt32.toInt32).toInt8.toInt32)).toInt - (((cc_ &&& (255 : Int32)).toUInt32.toUInt16.toUInt32.toInt32).toInt8.toInt32).toInt) % 256 = 0 ∧ -128 ≤ (nar .byte (((cc_ &&& (255 : Int32)).toUInt32.toUInt16.toUInt32.toInt32).toInt8.toInt32)).toInt ∧ (nar .byte (((cc_ &&& (255 : Int32)).toUInt32.toUInt16.toUInt32.toInt32).toInt8.toInt32)).toInt < 128 from c_i2b (((cc_ &&& (255 : Int32)).toUInt32.toUInt16.toUInt32.toInt32).toInt8.toInt32))
    have p0 := c76
    have p1 := c78
    have p2 := c79
    have p3 := c80
    simp only [true_implies, Int32.lt_iff_toInt_lt, ← Int32.toInt_inj, Int32.reduceToInt, Int64.lt_iff_toInt_lt, ← Int64.toInt_inj, Int64.reduceToInt] at q0 q1 q2 q3 q4 q5 q6 q7 q8 q9 p0 p1 p2 p3 ⊢
    omega
  have c82 : (nar .byte (((((cc_.toUInt32 >>> ((8 : Int32) &&& 31).toUInt32).toInt32) &&& (255 : Int32)).toUInt32.toUInt16.toUInt32.toInt32).toInt8.toInt32)) = (((((cc_.toUInt32 >>> ((8 : Int32) &&& 31).toUInt32).toInt32) &&& (255 : Int32)).toUInt32.toUInt16.toUInt32.toInt32).toInt8.toInt32) := by
    have q0 := rng32 cc_
    have q1 := c_mask cc_ (255 : Int32) 8 (by decide) (by decide)
    have q2 := c_i2c (cc_ &&& (255 : Int32))
    have q3 := (show ((nar .char ((cc_ &&& (255 : Int32)).toUInt32.toUInt16.toUInt32.toInt32)).toInt - ((cc_ &&& (255 : Int32)).toUInt32.toUInt16.toUInt32.toInt32).toInt) % 65536 = 0 ∧ 0 ≤ (nar .char ((cc_ &&& (255 : Int32)).toUInt32.toUInt16.toUInt32.toInt32)).toInt ∧ (nar .char ((cc_ &&& (255 : Int32)).toUInt32.toUInt16.toUInt32.toInt32)).toInt < 65536 from c_i2c ((cc_ &&& (255 : Int32)).toUInt32.toUInt16.toUInt32.toInt32))
    have q4 := c_iushr cc_ (8 : Int32) 8 (by decide) (by decide)
    have q5 := c_mask ((cc_.toUInt32 >>> ((8 : Int32) &&& 31).toUInt32).toInt32) (255 : Int32) 8 (by decide) (by decide)
    have q6 := c_i2c (((cc_.toUInt32 >>> ((8 : Int32) &&& 31).toUInt32).toInt32) &&& (255 : Int32))
    have q7 := (show ((nar .char ((((cc_.toUInt32 >>> ((8 : Int32) &&& 31).toUInt32).toInt32) &&& (255 : Int32)).toUInt32.toUInt16.toUInt32.toInt32)).toInt - ((((cc_.toUInt32 >>> ((8 : Int32) &&& 31).toUInt32).toInt32) &&& (255 : Int32)).toUInt32.toUInt16.toUInt32.toInt32).toInt) % 65536 = 0 ∧ 0 ≤ (nar .char ((((cc_.toUInt32 >>> ((8 : Int32) &&& 31).toUInt32).toInt32) &&& (255 : Int32)).toUInt32.toUInt16.toUInt32.toInt32)).toInt ∧ (nar .char ((((cc_.toUInt32 >>> ((8 : Int32) &&& 31).toUInt32).toInt32) &&& (255 : Int32)).toUInt32.toUInt16.toUInt32.toInt32)).toInt < 65536 from c_i2c ((((cc_.toUInt32 >>> ((8 : Int32) &&& 31).toUInt32).toInt32) &&& (255 : Int32)).toUInt32.toUInt16.toUInt32.toInt32))
    have q8 := c_i2b ((cc_ &&& (255 : Int32)).toUInt32.toUInt16.toUInt32.toInt32)
    have q9 := (show ((nar .byte (((cc_ &&& (255 : Int32)).toUInt32.toUInt16.toUInt32.toInt32).toInt8.toInt32)).toInt - (((cc_ &&& (255 : Int32)).toUInt32.toUInt16.toUInt32.toInt32).toInt8.toInt32).toInt) % 256 = 0 ∧ -128 ≤ (nar .byte (((cc_ &&& (255 : Int32)).toUInt32.toUInt16.toUInt32.toInt32).toInt8.toInt32)).toInt ∧ (nar .byte (((cc_ &&& (255 : Int32)).toUInt32.toUInt16.toUInt32.toInt32).toInt8.toInt32)).toInt < 128 from c_i2b (((cc_ &&& (255 : Int32)).toUInt32.toUInt16.toUInt32.toInt32).toInt8.toInt32))
    have q10 := c_i2b ((((cc_.toUInt32 >>> ((8 : Int32) &&& 31).toUInt32).toInt32) &&& (255 : Int32)).toUInt32.toUInt16.toUInt32.toInt32)
    have q11 := (show ((nar .byte (((((cc_.toUInt32 >>> ((8 : Int32) &&& 31).toUInt32).toInt32) &&& (255 : Int32)).toUInt32.toUInt16.toUInt32.toInt32).toInt8.toInt32)).toInt - (((((cc_.toUInt32 >>> ((8 : Int32) &&& 31).toUInt32).toInt32) &&& (255 : Int32)).toUInt32.toUInt16.toUInt32.toInt32).toInt8.toInt32).toInt) % 256 = 0 ∧ -128 ≤ (nar .byte (((((cc_.toUInt32 >>> ((8 : Int32) &&& 31).toUInt32).toInt32) &&& (255 : Int32)).toUInt32.toUInt16.toUInt32.toInt32).toInt8.toInt32)).toInt ∧ (nar .byte (((((cc_.toUInt32 >>> ((8 : Int32) &&& 31).toUInt32).toInt32) &&& (255 : Int32)).toUInt32.toUInt16.toUInt32.toInt32).toInt8.toInt32)).toInt < 128 from c_i2b (((((cc_.toUInt32 >>> ((8 : Int32) &&& 31).toUInt32).toInt32) &&& (255 : Int32)).toUInt32.toUInt16.toUInt32.toInt32).toInt8.toInt32))
    have p0 := c76
    have p1 := c78
    have p2 := c79
    have p3 := c80
    have p4 := c81
    simp only [true_implies, Int32.lt_iff_toInt_lt, ← Int32.toInt_inj, Int32.reduceToInt, Int64.lt_iff_toInt_lt, ← Int64.toInt_inj, Int64.reduceToInt] at q0 q1 q2 q3 q4 q5 q6 q7 q8 q9 q10 q11 p0 p1 p2 p3 p4 ⊢
    omega
  have K84 := (((K72.ext E69).wr W75 (Or.inr sz73)).wr W77 (Or.inr sz73))
  have f85 := (own_sta_keep S_COMPACT_STRINGS K84 all0)
  have f86 := ((EA69.wr W75).wr W77)
  have f87 := (((A64.ext E69).wr W75).wr W77)
  have f88 := (((f68.ext E69).other W75 (Or.inl (Nat.ne_of_lt (Nat.lt_of_lt_of_le A64.lt (Nat.le_of_eq g69.symm))))).other W77 (Or.inl (Nat.ne_of_lt (Nat.lt_of_lt_of_le A64.lt (Nat.le_of_eq g69.symm)))))
  have f89 := (((f67.ext E69).other W75 (Or.inl (Nat.ne_of_lt (Nat.lt_of_lt_of_le A64.lt (Nat.le_of_eq g69.symm))))).other W77 (Or.inl (Nat.ne_of_lt (Nat.lt_of_lt_of_le A64.lt (Nat.le_of_eq g69.symm)))))
  have Z90 := (Nat.le_trans (Nat.le_trans (Nat.le_trans Z70 E69.1) (Nat.le_of_eq W75.size.symm)) (Nat.le_of_eq W77.size.symm))
  refine own_cp X77 hx hZ hown rfl (hw _ (own_m 8 rfl)) (hw _ (own_m 9 rfl)) (hw _ (own_m 6 rfl)) (hw _ (own_m 10 rfl)) (by decide) (rm := { frames := 3, cells := 1, slots := 2, locals := 52 }) (rm_init_11 l Z a0 hw [] b64 b69 ((cc_ &&& (255 : Int32)).toUInt32.toUInt16.toUInt32.toInt32) ((((cc_.toUInt32 >>> ((8 : Int32) &&& 31).toUInt32).toInt32) &&& (255 : Int32)).toUInt32.toUInt16.toUInt32.toInt32) k69 i_COMPACT_STRINGS h77 n0 Z90 f77 f85 f86 f87 f88 f89 ge65 hs_COMPACT_STRINGS c79 c80 c81 c82) (by decide) (W := 1) (by decide) (by decide) (by decide) e77 (by rw [hml]; rfl) (argsL := [(.ref b69)]) (lenOf own_pd1 rfl) (rest := [(.ref b64)]) rfl rfl (Nat.le_of_eq rfl) (hb hby own_d_method_2_code_67) ?_
  intro _ T83 L83 X83 hQ83
  obtain ⟨b83_0, kb83_0, rfl, N83q, K83, ge83_0, sz83_0, f83_0, f83_1, f83_2, f83_3⟩ := hQ83
  have N83 := Fr.app N77 N83q
  have sz91 : h0.size ≤ b83_0 := Nat.le_trans K84.1 sz83_0
  show own_Go p e below _ (T83.setTop (mkF m 70 #[.val (.int cc_), .val (.int len), .val (.int ((cc_ &&& (255 : Int32)).toUInt32.toUInt16.toUInt32.toInt32)), .val (.int ((((cc_.toUInt32 >>> ((8 : Int32) &&& 31).toUInt32).toInt32) &&& (255 : Int32)).toUInt32.toUInt16.toUInt32.toInt32))] [(.ref b64)]))
  have f92 := (f87.keep K83)
  have el93 : len = (2 : Int32) := by
    have q0 := rng32 len
    have p0 := hl0
    have p1 := hl2
    have p2 := c1
    have p3 := c28
    simp only [true_implies, Int32.lt_iff_toInt_lt, ← Int32.toInt_inj, Int32.reduceToInt, Int64.lt_iff_toInt_lt, ← Int64.toInt_inj, Int64.reduceToInt] at q0 p0 p1 p2 p3 ⊢
    omega
  have ev94 : (own_mkl cc_ len) = [(.int (((cc_ &&& (255 : Int32)).toUInt32.toUInt16.toUInt32.toInt32).toInt8.toInt32)), (.int (((((cc_.toUInt32 >>> ((8 : Int32) &&& 31).toUInt32).toInt32) &&& (255 : Int32)).toUInt32.toUInt16.toUInt32.toInt32).toInt8.toInt32))] := by first | (rw [el93]; rfl) | (rw [el93]; simp [own_mkl]; done) | (simp [own_mkl, hs_COMPACT_STRINGS, hl0, hl2, c1, c28, c76, c78, c79, c80, c81, c82]; done)
  have eb95 : Arv Z T83.heap b83_0 kb83_0 .byte len (own_mkl cc_ len) (.int (0 : Int32)) := by rw [ev94, el93]; exact f83_3
  have K96 := (K84.trans K83 (allS (Or.inr sz66) all0))
  have hk97 := (Nat.le_trans (Nat.le_trans (Nat.le_trans (Nat.le_trans (Nat.le_trans hk E64.1) E69.1) (Nat.le_of_eq W75.size.symm)) (Nat.le_of_eq W77.size.symm)) K83.1)
  have A98 := A0.trans (CHr.ext E64 A0.1)
  have A99 := A98.trans (CHr.ext E69 A98.1)
  have sf101 := (Safe.ext E69 A98.1 (Safe.new (Nat.le_of_eq g69.symm)))
  have A100 := A99.trans (CHr.wr W75 sf101 A99.1)
  have sf103 := (Safe.wr W75 sf101 A99.1 sf101)
  have A102 := A100.trans (CHr.wr W77 sf103 A100.1)
  have sf105 := (Safe.wr W77 sf103 A100.1 (Safe.wr W75 sf101 A99.1 (Safe.ext E69 A98.1 (Safe.ext E64 A0.1 (Safe.new (Nat.le_of_eq g64.symm))))))
  have A104 := A102.trans (CHr.keep K83 (sfS sf105 sf0) A102.1)
  exact own_retRW X83 hx hlk Bd.returns hS hk97 hZ hEL hh rfl A104 rfl rfl (hb hby own_d_method_2_code_70) (by decide) (by decide) (by exact ⟨b64, b83_0, kb83_0, rfl, N83, K96, ge65, sz66, f92, f83_0, f83_1, eb95⟩)
def own_B0 (cc_ : Int32) : Int32 := (((cc_ &&& (255 : Int32)).toUInt32.toUInt16.toUInt32.toInt32).toInt8.toInt32)
def own_B1 (cc_ : Int32) : Int32 := (((((cc_.toUInt32 >>> ((8 : Int32) &&& 31).toUInt32).toInt32) &&& (255 : Int32)).toUInt32.toUInt16.toUInt32.toInt32).toInt8.toInt32)
theorem own_mkl0 {c z : Int32} {dv : Value} (h : (0 : Int32) < z) : (own_mkl c z).getD 0 dv = .int (own_B0 c) := by
  have : z ≠ 0 := fun e => by subst e; exact absurd h (by decide)
  unfold own_mkl; rw [if_neg this]; split <;> rfl
theorem own_mkl1 {c z : Int32} {dv : Value} (h : (1 : Int32) < z) : (own_mkl c z).getD 1 dv = .int (own_B1 c) := by
  have h0 : z ≠ 0 := fun e => by subst e; exact absurd h (by decide)
  have h1 : z ≠ 1 := fun e => by subst e; exact absurd h (by decide)
  unfold own_mkl; rw [if_neg h0, if_neg h1]; rfl
theorem own_d_jdk_43_method_13_code_0 : decode jdk_43_method_13_code 0 = .ok (.aload_n 0, 1) := by decide +kernel
theorem own_d_jdk_43_method_13_code_1 : decode jdk_43_method_13_code 1 = .ok (.arraylength, 1) := by decide +kernel
theorem own_d_jdk_43_method_13_code_2 : decode jdk_43_method_13_code 2 = .ok (.aload_n 1, 1) := by decide +kernel
theorem own_d_jdk_43_method_13_code_3 : decode jdk_43_method_13_code 3 = .ok (.arraylength, 1) := by decide +kernel
theorem own_d_jdk_43_method_13_code_4 : decode jdk_43_method_13_code 4 = .ok (.if_icmp .ne 30, 3) := by decide +kernel
theorem own_d_jdk_43_method_13_code_7 : decode jdk_43_method_13_code 7 = .ok (.iconst 0, 1) := by decide +kernel
theorem own_d_jdk_43_method_13_code_8 : decode jdk_43_method_13_code 8 = .ok (.istore_n 2, 1) := by decide +kernel
theorem own_d_jdk_43_method_13_code_9 : decode jdk_43_method_13_code 9 = .ok (.iload_n 2, 1) := by decide +kernel
theorem own_d_jdk_43_method_13_code_10 : decode jdk_43_method_13_code 10 = .ok (.aload_n 0, 1) := by decide +kernel
theorem own_d_jdk_43_method_13_code_11 : decode jdk_43_method_13_code 11 = .ok (.arraylength, 1) := by decide +kernel
theorem own_d_jdk_43_method_13_code_12 : decode jdk_43_method_13_code 12 = .ok (.if_icmp .ge 20, 3) := by decide +kernel
theorem own_d_jdk_43_method_13_code_15 : decode jdk_43_method_13_code 15 = .ok (.aload_n 0, 1) := by decide +kernel
theorem own_d_jdk_43_method_13_code_16 : decode jdk_43_method_13_code 16 = .ok (.iload_n 2, 1) := by decide +kernel
theorem own_d_jdk_43_method_13_code_17 : decode jdk_43_method_13_code 17 = .ok (.baload, 1) := by decide +kernel
theorem own_d_jdk_43_method_13_code_18 : decode jdk_43_method_13_code 18 = .ok (.aload_n 1, 1) := by decide +kernel
theorem own_d_jdk_43_method_13_code_19 : decode jdk_43_method_13_code 19 = .ok (.iload_n 2, 1) := by decide +kernel
theorem own_d_jdk_43_method_13_code_20 : decode jdk_43_method_13_code 20 = .ok (.baload, 1) := by decide +kernel
theorem own_d_jdk_43_method_13_code_21 : decode jdk_43_method_13_code 21 = .ok (.if_icmp .eq 5, 3) := by decide +kernel
theorem own_d_jdk_43_method_13_code_26 : decode jdk_43_method_13_code 26 = .ok (.iinc 2 1, 3) := by decide +kernel
theorem own_d_jdk_43_method_13_code_29 : decode jdk_43_method_13_code 29 = .ok (.goto (-20), 3) := by decide +kernel
theorem own_d_jdk_43_method_13_code_32 : decode jdk_43_method_13_code 32 = .ok (.iconst 1, 1) := by decide +kernel
theorem own_d_jdk_43_method_13_code_33 : decode jdk_43_method_13_code 33 = .ok (.ireturn, 1) := by decide +kernel
theorem own_d_jdk_43_method_13_code_24 : decode jdk_43_method_13_code 24 = .ok (.iconst 0, 1) := by decide +kernel
theorem own_d_jdk_43_method_13_code_25 : decode jdk_43_method_13_code 25 = .ok (.ireturn, 1) := by decide +kernel
theorem own_d_jdk_43_method_13_code_34 : decode jdk_43_method_13_code 34 = .ok (.iconst 0, 1) := by decide +kernel
theorem own_d_jdk_43_method_13_code_35 : decode jdk_43_method_13_code 35 = .ok (.ireturn, 1) := by decide +kernel
def own_leq (ca1_ : Int32) (z1 : Int32) (ca2_ : Int32) (z2 : Int32) : Int32 := (if z1 = z2 then (if (0 : Int32) < z1 then (if (own_B0 ca1_) = (own_B0 ca2_) then (if (1 : Int32) < z1 then (if (own_B1 ca1_) = (own_B1 ca2_) then (1 : Int32) else (0 : Int32)) else (1 : Int32)) else (0 : Int32)) else (1 : Int32)) else (0 : Int32))
theorem own_pn_java_lang_StringLatin1 : plainName "java/lang/StringLatin1" = true := by first | (simp [plainName, overriddenIn]; done) | decide +kernel
def Q_leq (Z : State) (ca1_ : Int32) (z1 : Int32) (ca2_ : Int32) (z2 : Int32) (h0 : Heap) (n0 : Nat) (v : Option Value) (h : Heap) (L : List Loc) : Prop := v = some (.int (own_leq ca1_ z1 ca2_ z2)) ∧ Fr n0 L ∧ h = h0
set_option maxRecDepth 65536 in
set_option maxHeartbeats 40000000 in
theorem rm_leq (l : Launch) (Z : State) (a0 : Array Value) (hw : ∀ d ∈ tables_1, d.before a0 Z = true) (ws : List Jvm.Cond) (o1 : Addr) (o2 : Addr) (k1 : ClassId) (k2 : ClassId) (ca1_ : Int32) (z1 : Int32) (ca2_ : Int32) (z2 : Int32) (h0 : Heap) (n0 : Nat) (Z0 : n0 ≤ h0.size) (V1 : Arv Z h0 o1 k1 .byte z1 (own_mkl ca1_ z1) (.int (0 : Int32))) (V2 : Arv Z h0 o2 k2 .byte z2 (own_mkl ca2_ z2) (.int (0 : Int32))) (hz1 : ¬ ((2 : Int32) < z1)) (hy1 : ¬ (z1 < (0 : Int32))) (hz2 : ¬ ((2 : Int32) < z2)) (hy2 : ¬ (z2 < (0 : Int32))) :
    MetFree l (⟨"java/lang/StringLatin1", "equals", "([B[B)Z"⟩ : MethodName) (head1 (Jvm.Cond.code (⟨"java/lang/StringLatin1", "equals", "([B[B)Z"⟩ : MethodName) jdk_43_method_13_code 3 (some .boolean) :: ws) ({ frames := 0, cells := 0, slots := 0, locals := 0 } : Room)) (fun aA U => aA = #[(.ref o1), (.ref o2)] ∧ Z.Warmed39 U.vm ∧ U.heap = h0) (fun _ _ _ _ _ => True) (fun _ U o U' => ∃ v L, o = .returned v ∧ Q_leq Z ca1_ z1 ca2_ z2 h0 n0 v U'.heap L ∧ FrameEnd U o U' L ({ frames := 0, cells := 0, slots := 0, locals := 0 } : Room).cells ({ frames := 0, cells := 0, slots := 0, locals := 0 } : Room).slots) := by
  refine MetFree.of_bodySF (plainFor_of_name own_pn_java_lang_StringLatin1) hisR ?_
  intro p e s m args below meth c s₁ Bd hml0 hP hK
  obtain ⟨rfl, hZ, hh⟩ := hP
  have hx := Bd.exec
  have hby := Bd.bytes
  have hlk : meth.locks = false := BodyLoose.notSynchronized Bd
  have hml : c.maxLocals = 3 := hml0
  have hown : s.vm.findClass "java/lang/StringLatin1" = some m.cls := findClass_of_methodNamed Bd.named
  have hnm := (name_of_methodNamed Bd.named Bd.method).1
  have X0 : Stand p l e ({ frames := 0, cells := 0, slots := 0, locals := 0 } : Room) s m #[(.ref o1), (.ref o2)] below meth c s₁ [] 0 0 := Stand.of_body Bd
  have e0 : s₁.heap = h0 := by rw [← hh, Bd.state]; rfl
  have N0 := Fr.nil n0
  show own_Go p e below (own_K s (Q_leq Z ca1_ z1 ca2_ z2 h0 n0) ({ frames := 0, cells := 0, slots := 0, locals := 0 } : Room).cells ({ frames := 0, cells := 0, slots := 0, locals := 0 } : Room).slots) (s₁.setTop (entryFrame m #[(.ref o1), (.ref o2)] 3))
  rw [(by first | (simp [entryFrame, mkF, argsToLocals, Value.category]; done) | rfl : entryFrame m #[(.ref o1), (.ref o2)] 3 = mkF m 0 #[.val (.ref o1), .val (.ref o2), .unset] [])]
  show own_Go p e below _ (s₁.setTop (mkF m 0 #[.val (.ref o1), .val (.ref o2), .unset] []))
  refine own_go (fun _ hr => XS.aloadN X0.here hx rfl (hb hby own_d_jdk_43_method_13_code_0) rfl rfl (own_alen X0 hx hZ e0 V1 rfl rfl (hb hby own_d_jdk_43_method_13_code_1) (XS.aloadN X0.here hx rfl (hb hby own_d_jdk_43_method_13_code_2) rfl rfl (own_alen X0 hx hZ e0 V2 rfl rfl (hb hby own_d_jdk_43_method_13_code_3) hr)))) ?_
  show own_Go p e below _ (s₁.setTop (mkF m 4 #[.val (.ref o1), .val (.ref o2), .unset] [(.int z2), (.int z1)]))
  rcases Classical.em (z1 = z2) with c1 | c1
  · skip
    refine own_go (fun _ hr => XS.icmpNo X0.here hx rfl (hb hby own_d_jdk_43_method_13_code_4) rfl (teq c1).2 hr) ?_
    show own_Go p e below _ (s₁.setTop (mkF m 7 #[.val (.ref o1), .val (.ref o2), .unset] []))
    refine own_go (fun _ hr => XS.iconst X0.here hx rfl (hb hby own_d_jdk_43_method_13_code_7) (XS.istoreN X0.here hx rfl (hb hby own_d_jdk_43_method_13_code_8) rfl (l' := #[.val (.ref o1), .val (.ref o2), .val (.int (0 : Int32))]) rfl (XS.iloadN X0.here hx rfl (hb hby own_d_jdk_43_method_13_code_9) rfl (XS.aloadN X0.here hx rfl (hb hby own_d_jdk_43_method_13_code_10) rfl rfl (own_alen X0 hx hZ e0 V1 rfl rfl (hb hby own_d_jdk_43_method_13_code_11) hr))))) ?_
    show own_Go p e below _ (s₁.setTop (mkF m 12 #[.val (.ref o1), .val (.ref o2), .val (.int (0 : Int32))] [(.int z1), (.int (0 : Int32))]))
    rcases Classical.em ((0 : Int32) < z1) with c2 | c2
    · skip
      refine own_go (fun _ hr => XS.icmpNo X0.here hx rfl (hb hby own_d_jdk_43_method_13_code_12) rfl (tlt c2).2.1 hr) ?_
      show own_Go p e below _ (s₁.setTop (mkF m 15 #[.val (.ref o1), .val (.ref o2), .val (.int (0 : Int32))] []))
      have c3 : (0 : Int32) < z2 := by
        have q0 := rng32 z2
        have q1 := rng32 z1
        have p0 := hz2
        have p1 := hy2
        have p2 := c1
        have p3 := c2
        have p4 := hz1
        have p5 := hy1
        simp only [true_implies, Int32.lt_iff_toInt_lt, ← Int32.toInt_inj, Int32.reduceToInt, Int64.lt_iff_toInt_lt, ← Int64.toInt_inj, Int64.reduceToInt] at q0 q1 p0 p1 p2 p3 p4 p5 ⊢
        omega
      refine own_go (fun _ hr => XS.aloadN X0.here hx rfl (hb hby own_d_jdk_43_method_13_code_15) rfl rfl (XS.iloadN X0.here hx rfl (hb hby own_d_jdk_43_method_13_code_16) rfl (own_baload X0 hx hZ e0 V1 (0 : Int32) (.int (own_B0 ca1_)) ⟨by decide, c2⟩ (own_mkl0 c2) rfl rfl (hb hby own_d_jdk_43_method_13_code_17) (XS.aloadN X0.here hx rfl (hb hby own_d_jdk_43_method_13_code_18) rfl rfl (XS.iloadN X0.here hx rfl (hb hby own_d_jdk_43_method_13_code_19) rfl (own_baload X0 hx hZ e0 V2 (0 : Int32) (.int (own_B0 ca2_)) ⟨by decide, c3⟩ (own_mkl0 c3) rfl rfl (hb hby own_d_jdk_43_method_13_code_20) hr)))))) ?_
      show own_Go p e below _ (s₁.setTop (mkF m 21 #[.val (.ref o1), .val (.ref o2), .val (.int (0 : Int32))] [(.int (own_B0 ca2_)), (.int (own_B0 ca1_))]))
      rcases Classical.em ((own_B0 ca1_) = (own_B0 ca2_)) with c4 | c4
      · skip
        refine own_go (fun _ hr => XS.icmpYes X0.here hx rfl (pc0 := 21) (pc' := 26) rfl (hb hby own_d_jdk_43_method_13_code_21) rfl (teq c4).1 (by decide) (by decide) hr) ?_
        show own_Go p e below _ (s₁.setTop (mkF m 26 #[.val (.ref o1), .val (.ref o2), .val (.int (0 : Int32))] []))
        refine own_go (fun _ hr => XS.iinc X0.here hx rfl (hb hby own_d_jdk_43_method_13_code_26) rfl (l' := #[.val (.ref o1), .val (.ref o2), .val (.int (1 : Int32))]) rfl (XS.goto X0.here hx rfl (pc0 := 29) (pc' := 9) rfl (hb hby own_d_jdk_43_method_13_code_29) (by decide) (by decide) (XS.iloadN X0.here hx rfl (hb hby own_d_jdk_43_method_13_code_9) rfl (XS.aloadN X0.here hx rfl (hb hby own_d_jdk_43_method_13_code_10) rfl rfl (own_alen X0 hx hZ e0 V1 rfl rfl (hb hby own_d_jdk_43_method_13_code_11) hr))))) ?_
        show own_Go p e below _ (s₁.setTop (mkF m 12 #[.val (.ref o1), .val (.ref o2), .val (.int (1 : Int32))] [(.int z1), (.int (1 : Int32))]))
        rcases Classical.em ((1 : Int32) < z1) with c5 | c5
        · skip
          refine own_go (fun _ hr => XS.icmpNo X0.here hx rfl (hb hby own_d_jdk_43_method_13_code_12) rfl (tlt c5).2.1 hr) ?_
          show own_Go p e below _ (s₁.setTop (mkF m 15 #[.val (.ref o1), .val (.ref o2), .val (.int (1 : Int32))] []))
          have c6 : (1 : Int32) < z2 := by
            have q0 := rng32 z2
            have q1 := rng32 z1
            have p0 := hz2
            have p1 := hy2
            have p2 := c1
            have p3 := c2
            have p4 := c3
            have p5 := c5
            have p6 := hz1
            have p7 := hy1
            simp only [true_implies, Int32.lt_iff_toInt_lt, ← Int32.toInt_inj, Int32.reduceToInt, Int64.lt_iff_toInt_lt, ← Int64.toInt_inj, Int64.reduceToInt] at q0 q1 p0 p1 p2 p3 p4 p5 p6 p7 ⊢
            omega
          refine own_go (fun _ hr => XS.aloadN X0.here hx rfl (hb hby own_d_jdk_43_method_13_code_15) rfl rfl (XS.iloadN X0.here hx rfl (hb hby own_d_jdk_43_method_13_code_16) rfl (own_baload X0 hx hZ e0 V1 (1 : Int32) (.int (own_B1 ca1_)) ⟨by decide, c5⟩ (own_mkl1 c5) rfl rfl (hb hby own_d_jdk_43_method_13_code_17) (XS.aloadN X0.here hx rfl (hb hby own_d_jdk_43_method_13_code_18) rfl rfl (XS.iloadN X0.here hx rfl (hb hby own_d_jdk_43_method_13_code_19) rfl (own_baload X0 hx hZ e0 V2 (1 : Int32) (.int (own_B1 ca2_)) ⟨by decide, c6⟩ (own_mkl1 c6) rfl rfl (hb hby own_d_jdk_43_method_13_code_20) hr)))))) ?_
          show own_Go p e below _ (s₁.setTop (mkF m 21 #[.val (.ref o1), .val (.ref o2), .val (.int (1 : Int32))] [(.int (own_B1 ca2_)), (.int (own_B1 ca1_))]))
          rcases Classical.em ((own_B1 ca1_) = (own_B1 ca2_)) with c7 | c7
          · skip
            refine own_go (fun _ hr => XS.icmpYes X0.here hx rfl (pc0 := 21) (pc' := 26) rfl (hb hby own_d_jdk_43_method_13_code_21) rfl (teq c7).1 (by decide) (by decide) hr) ?_
            show own_Go p e below _ (s₁.setTop (mkF m 26 #[.val (.ref o1), .val (.ref o2), .val (.int (1 : Int32))] []))
            refine own_go (fun _ hr => XS.iinc X0.here hx rfl (hb hby own_d_jdk_43_method_13_code_26) rfl (l' := #[.val (.ref o1), .val (.ref o2), .val (.int (2 : Int32))]) rfl (XS.goto X0.here hx rfl (pc0 := 29) (pc' := 9) rfl (hb hby own_d_jdk_43_method_13_code_29) (by decide) (by decide) (XS.iloadN X0.here hx rfl (hb hby own_d_jdk_43_method_13_code_9) rfl (XS.aloadN X0.here hx rfl (hb hby own_d_jdk_43_method_13_code_10) rfl rfl (own_alen X0 hx hZ e0 V1 rfl rfl (hb hby own_d_jdk_43_method_13_code_11) hr))))) ?_
            show own_Go p e below _ (s₁.setTop (mkF m 12 #[.val (.ref o1), .val (.ref o2), .val (.int (2 : Int32))] [(.int z1), (.int (2 : Int32))]))
            refine own_go (fun _ hr => XS.icmpYes X0.here hx rfl (pc0 := 12) (pc' := 32) rfl (hb hby own_d_jdk_43_method_13_code_12) rfl (flt hz1).2.1 (by decide) (by decide) hr) ?_
            show own_Go p e below _ (s₁.setTop (mkF m 32 #[.val (.ref o1), .val (.ref o2), .val (.int (2 : Int32))] []))
            refine own_go (fun _ hr => XS.iconst X0.here hx rfl (hb hby own_d_jdk_43_method_13_code_32) hr) ?_
            show own_Go p e below _ (s₁.setTop (mkF m 33 #[.val (.ref o1), .val (.ref o2), .val (.int (2 : Int32))] [(.int (1 : Int32))]))
            exact own_retN X0 hx hlk Bd.returns (t := .boolean) (by simp) (hb hby own_d_jdk_43_method_13_code_33) (by decide) (by decide) ⟨(congrArg (fun q => some (Value.int q)) (show (1 : Int32) = own_leq ca1_ z1 ca2_ z2 from Eq.symm (by unfold own_leq; rw [if_pos c1, if_pos c2, if_pos c4, if_pos c5, if_pos c7]))), N0, e0⟩
          refine own_go (fun _ hr => XS.icmpNo X0.here hx rfl (hb hby own_d_jdk_43_method_13_code_21) rfl (feq c7).1 hr) ?_
          show own_Go p e below _ (s₁.setTop (mkF m 24 #[.val (.ref o1), .val (.ref o2), .val (.int (1 : Int32))] []))
          refine own_go (fun _ hr => XS.iconst X0.here hx rfl (hb hby own_d_jdk_43_method_13_code_24) hr) ?_
          show own_Go p e below _ (s₁.setTop (mkF m 25 #[.val (.ref o1), .val (.ref o2), .val (.int (1 : Int32))] [(.int (0 : Int32))]))
          exact own_retN X0 hx hlk Bd.returns (t := .boolean) (by simp) (hb hby own_d_jdk_43_method_13_code_25) (by decide) (by decide) ⟨(congrArg (fun q => some (Value.int q)) (show (0 : Int32) = own_leq ca1_ z1 ca2_ z2 from Eq.symm (by unfold own_leq; rw [if_pos c1, if_pos c2, if_pos c4, if_pos c5, if_neg c7]))), N0, e0⟩
        refine own_go (fun _ hr => XS.icmpYes X0.here hx rfl (pc0 := 12) (pc' := 32) rfl (hb hby own_d_jdk_43_method_13_code_12) rfl (flt c5).2.1 (by decide) (by decide) hr) ?_
        show own_Go p e below _ (s₁.setTop (mkF m 32 #[.val (.ref o1), .val (.ref o2), .val (.int (1 : Int32))] []))
        refine own_go (fun _ hr => XS.iconst X0.here hx rfl (hb hby own_d_jdk_43_method_13_code_32) hr) ?_
        show own_Go p e below _ (s₁.setTop (mkF m 33 #[.val (.ref o1), .val (.ref o2), .val (.int (1 : Int32))] [(.int (1 : Int32))]))
        exact own_retN X0 hx hlk Bd.returns (t := .boolean) (by simp) (hb hby own_d_jdk_43_method_13_code_33) (by decide) (by decide) ⟨(congrArg (fun q => some (Value.int q)) (show (1 : Int32) = own_leq ca1_ z1 ca2_ z2 from Eq.symm (by unfold own_leq; rw [if_pos c1, if_pos c2, if_pos c4, if_neg c5]))), N0, e0⟩
      refine own_go (fun _ hr => XS.icmpNo X0.here hx rfl (hb hby own_d_jdk_43_method_13_code_21) rfl (feq c4).1 hr) ?_
      show own_Go p e below _ (s₁.setTop (mkF m 24 #[.val (.ref o1), .val (.ref o2), .val (.int (0 : Int32))] []))
      refine own_go (fun _ hr => XS.iconst X0.here hx rfl (hb hby own_d_jdk_43_method_13_code_24) hr) ?_
      show own_Go p e below _ (s₁.setTop (mkF m 25 #[.val (.ref o1), .val (.ref o2), .val (.int (0 : Int32))] [(.int (0 : Int32))]))
      exact own_retN X0 hx hlk Bd.returns (t := .boolean) (by simp) (hb hby own_d_jdk_43_method_13_code_25) (by decide) (by decide) ⟨(congrArg (fun q => some (Value.int q)) (show (0 : Int32) = own_leq ca1_ z1 ca2_ z2 from Eq.symm (by unfold own_leq; rw [if_pos c1, if_pos c2, if_neg c4]))), N0, e0⟩
    refine own_go (fun _ hr => XS.icmpYes X0.here hx rfl (pc0 := 12) (pc' := 32) rfl (hb hby own_d_jdk_43_method_13_code_12) rfl (flt c2).2.1 (by decide) (by decide) hr) ?_
    show own_Go p e below _ (s₁.setTop (mkF m 32 #[.val (.ref o1), .val (.ref o2), .val (.int (0 : Int32))] []))
    refine own_go (fun _ hr => XS.iconst X0.here hx rfl (hb hby own_d_jdk_43_method_13_code_32) hr) ?_
    show own_Go p e below _ (s₁.setTop (mkF m 33 #[.val (.ref o1), .val (.ref o2), .val (.int (0 : Int32))] [(.int (1 : Int32))]))
    exact own_retN X0 hx hlk Bd.returns (t := .boolean) (by simp) (hb hby own_d_jdk_43_method_13_code_33) (by decide) (by decide) ⟨(congrArg (fun q => some (Value.int q)) (show (1 : Int32) = own_leq ca1_ z1 ca2_ z2 from Eq.symm (by unfold own_leq; rw [if_pos c1, if_neg c2]))), N0, e0⟩
  refine own_go (fun _ hr => XS.icmpYes X0.here hx rfl (pc0 := 4) (pc' := 34) rfl (hb hby own_d_jdk_43_method_13_code_4) rfl (feq c1).2 (by decide) (by decide) hr) ?_
  show own_Go p e below _ (s₁.setTop (mkF m 34 #[.val (.ref o1), .val (.ref o2), .unset] []))
  refine own_go (fun _ hr => XS.iconst X0.here hx rfl (hb hby own_d_jdk_43_method_13_code_34) hr) ?_
  show own_Go p e below _ (s₁.setTop (mkF m 35 #[.val (.ref o1), .val (.ref o2), .unset] [(.int (0 : Int32))]))
  exact own_retN X0 hx hlk Bd.returns (t := .boolean) (by simp) (hb hby own_d_jdk_43_method_13_code_35) (by decide) (by decide) ⟨(congrArg (fun q => some (Value.int q)) (show (0 : Int32) = own_leq ca1_ z1 ca2_ z2 from Eq.symm (by unfold own_leq; rw [if_neg c1]))), N0, e0⟩
theorem own_leq_comm (c1 z1 c2 z2 : Int32) : own_leq c1 z1 c2 z2 = own_leq c2 z2 c1 z1 := by
  by_cases h : z1 = z2
  · subst h; simp only [own_leq, eq_comm]
  · simp [own_leq, h, Ne.symm h, show ¬ (z2 = z1) from fun q => h q.symm]
theorem own_leq_self (c z : Int32) : own_leq c z c z = 1 := by simp [own_leq]
theorem own_pd5 : parseMethodDescriptor "(II)Ljava/lang/String;" = some ⟨[.int, .int], some (.object "java/lang/String")⟩ := by decide +kernel
theorem own_d_prog_8_method_1_code_0 : decode prog_8_method_1_code 0 = .ok (.aload_n 0, 1) := by decide +kernel
theorem own_d_prog_8_method_1_code_1 : decode prog_8_method_1_code 1 = .ok (.invokespecial 1, 3) := by decide +kernel
theorem own_d_prog_8_method_1_code_4 : decode prog_8_method_1_code 4 = .ok (.aload_n 0, 1) := by decide +kernel
theorem own_d_prog_8_method_1_code_5 : decode prog_8_method_1_code 5 = .ok (.aload_n 1, 1) := by decide +kernel
theorem own_d_prog_8_method_1_code_6 : decode prog_8_method_1_code 6 = .ok (.putfield 7, 3) := by decide +kernel
theorem own_d_prog_8_method_1_code_9 : decode prog_8_method_1_code 9 = .ok (.aload_n 0, 1) := by decide +kernel
theorem own_d_prog_8_method_1_code_10 : decode prog_8_method_1_code 10 = .ok (.iload_n 2, 1) := by decide +kernel
theorem own_d_prog_8_method_1_code_11 : decode prog_8_method_1_code 11 = .ok (.putfield 13, 3) := by decide +kernel
theorem own_d_prog_8_method_1_code_14 : decode prog_8_method_1_code 14 = .ok (.return_, 1) := by decide +kernel
theorem own_pn_com_example_appenddb_appenddb_TopicQueue : plainName "com/example/appenddb/appenddb/TopicQueue" = true := by first | (simp [plainName, overriddenIn]; done) | decide +kernel
def Q_init_14 (Z : State) (o0 : Addr) (o1 : Addr) (y0 : Int32) (h0 : Heap) (n0 : Nat) (v : Option Value) (h : Heap) (L : List Loc) : Prop := (v = none ∧ Fr n0 L ∧ Keep h0 h [o0] ∧ Fld Z h o0 "com/example/appenddb/appenddb/TopicQueue" "queueId" "I" (.int y0) ∧ Fld Z h o0 "com/example/appenddb/appenddb/TopicQueue" "topic" "Ljava/lang/String;" (.ref o1))
set_option maxRecDepth 65536 in
set_option maxHeartbeats 40000000 in
theorem rm_init_14 (l : Launch) (Z : State) (a0 : Array Value) (hw : ∀ d ∈ tables_1, d.before a0 Z = true) (ws : List Jvm.Cond) (o0 : Addr) (o1 : Addr) (y0 : Int32) (h0 : Heap) (n0 : Nat) (Z0 : n0 ≤ h0.size) (P0 : Exa Z h0 o0 "com/example/appenddb/appenddb/TopicQueue") (P1 : Fld Z h0 o0 "com/example/appenddb/appenddb/TopicQueue" "topic" "Ljava/lang/String;" .null) (P2 : Fld Z h0 o0 "com/example/appenddb/appenddb/TopicQueue" "queueId" "I" (.int (0 : Int32))) (ge0p : n0 ≤ o0) :
    MetFree l (⟨"com/example/appenddb/appenddb/TopicQueue", "<init>", "(Ljava/lang/String;I)V"⟩ : MethodName) (head1 (Jvm.Cond.code (⟨"com/example/appenddb/appenddb/TopicQueue", "<init>", "(Ljava/lang/String;I)V"⟩ : MethodName) prog_8_method_1_code 3 none :: ws) ({ frames := 1, cells := 0, slots := 0, locals := 12 } : Room)) (fun aA U => aA = #[(.ref o0), (.ref o1), (.int y0)] ∧ Z.Warmed39 U.vm ∧ U.heap = h0) (fun _ _ _ _ _ => True) (fun _ U o U' => ∃ v L, o = .returned v ∧ Q_init_14 Z o0 o1 y0 h0 n0 v U'.heap L ∧ FrameEnd U o U' L ({ frames := 1, cells := 0, slots := 0, locals := 12 } : Room).cells ({ frames := 1, cells := 0, slots := 0, locals := 12 } : Room).slots) := by
  refine MetFree.of_bodySF (plainFor_of_name own_pn_com_example_appenddb_appenddb_TopicQueue) hisR ?_
  intro p e s m args below meth c s₁ Bd hml0 hP hK
  obtain ⟨rfl, hZ, hh⟩ := hP
  have hx := Bd.exec
  have hby := Bd.bytes
  have hlk : meth.locks = false := BodyLoose.notSynchronized Bd
  have hml : c.maxLocals = 3 := hml0
  have hown : s.vm.findClass "com/example/appenddb/appenddb/TopicQueue" = some m.cls := findClass_of_methodNamed Bd.named
  have hnm := (name_of_methodNamed Bd.named Bd.method).1
  have X0 : Stand p l e ({ frames := 1, cells := 0, slots := 0, locals := 12 } : Room) s m #[(.ref o0), (.ref o1), (.int y0)] below meth c s₁ [] 0 0 := Stand.of_body Bd
  have e0 : s₁.heap = h0 := by rw [← hh, Bd.state]; rfl
  have N0 := Fr.nil n0
  have K0 : Keep h0 h0 [o0] := Keep.refl _ _
  show own_Go p e below (own_K s (Q_init_14 Z o0 o1 y0 h0 n0) ({ frames := 1, cells := 0, slots := 0, locals := 12 } : Room).cells ({ frames := 1, cells := 0, slots := 0, locals := 12 } : Room).slots) (s₁.setTop (entryFrame m #[(.ref o0), (.ref o1), (.int y0)] 3))
  rw [(by first | (simp [entryFrame, mkF, argsToLocals, Value.category]; done) | rfl : entryFrame m #[(.ref o0), (.ref o1), (.int y0)] 3 = mkF m 0 #[.val (.ref o0), .val (.ref o1), .val (.int y0)] [])]
  show own_Go p e below _ (s₁.setTop (mkF m 0 #[.val (.ref o0), .val (.ref o1), .val (.int y0)] []))
  refine own_go (fun _ hr => XS.aloadN X0.here hx rfl (hb hby own_d_prog_8_method_1_code_0) rfl rfl hr) ?_
  show own_Go p e below _ (s₁.setTop (mkF m 1 #[.val (.ref o0), .val (.ref o1), .val (.int y0)] [(.ref o0)]))
  obtain ⟨T1, X1, e1, st1⟩ := initO X0 hx hZ hown (hw _ (own_m 32 rfl)) (hw _ (own_m 16 rfl)) (hw _ (own_m 17 rfl)) e0 (g := (mkF m 1 #[.val (.ref o0), .val (.ref o1), .val (.int y0)] [(.ref o0)])) rfl (by rw [hml]; rfl) rfl (hb hby own_d_prog_8_method_1_code_1) (by decide) (W := 0) (by show 2 * 0 + _ ≤ _; exact Nat.le_of_eq rfl) (by decide)
  refine own_go st1 ?_
  show own_Go p e below _ (T1.setTop (mkF m 4 #[.val (.ref o0), .val (.ref o1), .val (.int y0)] []))
  refine own_go (fun _ hr => XS.aloadN X1.here hx rfl (hb hby own_d_prog_8_method_1_code_4) rfl rfl (XS.aloadN X1.here hx rfl (hb hby own_d_prog_8_method_1_code_5) rfl rfl hr)) ?_
  show own_Go p e below _ (T1.setTop (mkF m 6 #[.val (.ref o0), .val (.ref o1), .val (.int y0)] [(.ref o1), (.ref o0)]))
  obtain ⟨T2, h2, X2, e2, W2, st2⟩ := putF X1 hx hZ hown (host := "") (Or.inl (hw _ (own_m 33 rfl))) Via.refl e1 P1 P0 (Or.inr ⟨(hw _ (own_m 34 rfl)), rfl, hnm⟩) (hw _ (own_m 27 rfl)) (ty := (.object "java/lang/String")) (by decide) rfl rfl (g := (mkF m 6 #[.val (.ref o0), .val (.ref o1), .val (.int y0)] [(.ref o1), (.ref o0)])) rfl rfl (hb hby own_d_prog_8_method_1_code_6)
  refine own_go st2 ?_
  have f3 := P1.same W2
  have N4 := Fr.snoc X2 N0 ge0p
  show own_Go p e below _ (T2.setTop (mkF m 9 #[.val (.ref o0), .val (.ref o1), .val (.int y0)] []))
  refine own_go (fun _ hr => XS.aloadN X2.here hx rfl (hb hby own_d_prog_8_method_1_code_9) rfl rfl (XS.iloadN X2.here hx rfl (hb hby own_d_prog_8_method_1_code_10) rfl hr)) ?_
  show own_Go p e below _ (T2.setTop (mkF m 11 #[.val (.ref o0), .val (.ref o1), .val (.int y0)] [(.int y0), (.ref o0)]))
  have f5 := (P0.wr W2)
  have f6 := (P2.other W2 (Or.inr (slot_ne (Or.inr (hw _ (own_m 36 rfl))) (Or.inr (hw _ (own_m 34 rfl))) (by decide) (t := .int) (t' := (.object "java/lang/String")) (by decide) (by decide))))
  obtain ⟨T7, h7, X7, e7, W7, st7⟩ := putF X2 hx hZ hown (host := "") (Or.inl (hw _ (own_m 35 rfl))) Via.refl e2 f6 f5 (Or.inr ⟨(hw _ (own_m 36 rfl)), rfl, hnm⟩) (hw _ (own_m 27 rfl)) (ty := .int) (by decide) rfl rfl (g := (mkF m 11 #[.val (.ref o0), .val (.ref o1), .val (.int y0)] [(.int y0), (.ref o0)])) rfl rfl (hb hby own_d_prog_8_method_1_code_11)
  refine own_go st7 ?_
  have f8 := f6.same W7
  have N9 := Fr.snoc X7 N4 ge0p
  show own_Go p e below _ (T7.setTop (mkF m 14 #[.val (.ref o0), .val (.ref o1), .val (.int y0)] []))
  have f10 := (f3.other W7 (Or.inr (slot_ne (Or.inr (hw _ (own_m 34 rfl))) (Or.inr (hw _ (own_m 36 rfl))) (by decide) (t := (.object "java/lang/String")) (t' := .int) (by decide) (by decide))))
  have K11 := ((K0.wr W2 (Or.inl (List.mem_of_getElem? (i := 0) rfl))).wr W7 (Or.inl (List.mem_of_getElem? (i := 0) rfl)))
  exact own_ret0 X7 hx hlk Bd.returns (hb hby own_d_prog_8_method_1_code_14) (by decide) (by decide) (by rw [e7]; exact ⟨rfl, N9, K11, f8, f10⟩)
theorem own_pd6 : parseMethodDescriptor "(Ljava/lang/String;I)V" = some ⟨[(.object "java/lang/String"), .int], none⟩ := by decide +kernel
theorem own_d_jdk_42_method_66_code_0 : decode jdk_42_method_66_code 0 = .ok (.aload_n 0, 1) := by decide +kernel
theorem own_d_jdk_42_method_66_code_1 : decode jdk_42_method_66_code 1 = .ok (.aload_n 1, 1) := by decide +kernel
theorem own_d_jdk_42_method_66_code_2 : decode jdk_42_method_66_code 2 = .ok (.if_acmp .ne 5, 3) := by decide +kernel
theorem own_d_jdk_42_method_66_code_7 : decode jdk_42_method_66_code 7 = .ok (.aload_n 1, 1) := by decide +kernel
theorem own_d_jdk_42_method_66_code_8 : decode jdk_42_method_66_code 8 = .ok (.instanceof 10, 3) := by decide +kernel
theorem own_d_jdk_42_method_66_code_11 : decode jdk_42_method_66_code 11 = .ok (.ifCond .eq 43, 3) := by decide +kernel
theorem own_d_jdk_42_method_66_code_14 : decode jdk_42_method_66_code 14 = .ok (.aload_n 1, 1) := by decide +kernel
theorem own_d_jdk_42_method_66_code_15 : decode jdk_42_method_66_code 15 = .ok (.checkcast 10, 3) := by decide +kernel
theorem own_d_jdk_42_method_66_code_18 : decode jdk_42_method_66_code 18 = .ok (.astore_n 2, 1) := by decide +kernel
theorem own_d_jdk_42_method_66_code_19 : decode jdk_42_method_66_code 19 = .ok (.getstatic 38, 3) := by decide +kernel
theorem own_d_jdk_42_method_66_code_22 : decode jdk_42_method_66_code 22 = .ok (.ifCond .eq 14, 3) := by decide +kernel
theorem own_d_jdk_42_method_66_code_25 : decode jdk_42_method_66_code 25 = .ok (.aload_n 0, 1) := by decide +kernel
theorem own_d_jdk_42_method_66_code_26 : decode jdk_42_method_66_code 26 = .ok (.getfield 15, 3) := by decide +kernel
theorem own_d_jdk_42_method_66_code_29 : decode jdk_42_method_66_code 29 = .ok (.aload_n 2, 1) := by decide +kernel
theorem own_d_jdk_42_method_66_code_30 : decode jdk_42_method_66_code 30 = .ok (.getfield 15, 3) := by decide +kernel
theorem own_d_jdk_42_method_66_code_33 : decode jdk_42_method_66_code 33 = .ok (.if_icmp .ne 21, 3) := by decide +kernel
theorem own_d_jdk_42_method_66_code_36 : decode jdk_42_method_66_code 36 = .ok (.aload_n 0, 1) := by decide +kernel
theorem own_d_jdk_42_method_66_code_37 : decode jdk_42_method_66_code 37 = .ok (.getfield 9, 3) := by decide +kernel
theorem own_d_jdk_42_method_66_code_40 : decode jdk_42_method_66_code 40 = .ok (.aload_n 2, 1) := by decide +kernel
theorem own_d_jdk_42_method_66_code_41 : decode jdk_42_method_66_code 41 = .ok (.getfield 9, 3) := by decide +kernel
theorem own_d_jdk_42_method_66_code_44 : decode jdk_42_method_66_code 44 = .ok (.invokestatic 541, 3) := by decide +kernel
theorem own_pd7 : parseMethodDescriptor "([B[B)Z" = some ⟨[(.array .byte), (.array .byte)], some .boolean⟩ := by decide +kernel
theorem own_d_jdk_42_method_66_code_47 : decode jdk_42_method_66_code 47 = .ok (.ifCond .eq 7, 3) := by decide +kernel
theorem own_d_jdk_42_method_66_code_50 : decode jdk_42_method_66_code 50 = .ok (.iconst 1, 1) := by decide +kernel
theorem own_d_jdk_42_method_66_code_51 : decode jdk_42_method_66_code 51 = .ok (.goto 4, 3) := by decide +kernel
theorem own_d_jdk_42_method_66_code_55 : decode jdk_42_method_66_code 55 = .ok (.ireturn, 1) := by decide +kernel
theorem own_d_jdk_42_method_66_code_54 : decode jdk_42_method_66_code 54 = .ok (.iconst 0, 1) := by decide +kernel
def Q_equals_15 (Z : State) (h0 : Heap) (n0 : Nat) (v : Option Value) (h : Heap) (L : List Loc) : Prop := v = some (.int (0 : Int32)) ∧ Fr n0 L ∧ h = h0
set_option maxRecDepth 65536 in
set_option maxHeartbeats 40000000 in
theorem rm_equals_15 (l : Launch) (Z : State) (a0 : Array Value) (hw : ∀ d ∈ tables_1, d.before a0 Z = true) (ws : List Jvm.Cond) (o0 : Addr) (o1 : Addr) (y0 : Int32) (o2 : Addr) (o3 : Addr) (y1 : Int32) (y2 : Int32) (kc0 : ClassId) (y3 : Int32) (y4 : Int32) (kc1 : ClassId) (h0 : Heap) (n0 : Nat) (Z0 : n0 ≤ h0.size) (P0 : Exa Z h0 o1 "java/lang/String") (P1 : Sta Z h0 "java/lang/String" "COMPACT_STRINGS" "Z" (.int y0)) (P2 : Fld Z h0 o0 "java/lang/String" "coder" "B" (.int (0 : Int32))) (P3 : Fld Z h0 o1 "java/lang/String" "coder" "B" (.int (0 : Int32))) (P4 : Fld Z h0 o0 "java/lang/String" "value" "[B" (.ref o2)) (P5 : Fld Z h0 o1 "java/lang/String" "value" "[B" (.ref o3)) (P6 : Arv Z h0 o2 kc0 .byte y1 (own_mkl y2 y1) (.int (0 : Int32))) (P7 : Arv Z h0 o3 kc1 .byte y3 (own_mkl y4 y3) (.int (0 : Int32))) (ne0p : o0 ≠ o1) (hb0 : ¬ (y0 = (0 : Int32))) (hb1 : ¬ ((2 : Int32) < y1)) (hb2 : ¬ (y1 < (0 : Int32))) (hb3 : ¬ ((2 : Int32) < y3)) (hb4 : ¬ (y3 < (0 : Int32))) (hb5 : (own_leq y2 y1 y4 y3) = (0 : Int32)) :
    MetFree l (⟨"java/lang/String", "equals", "(Ljava/lang/Object;)Z"⟩ : MethodName) (head1 (Jvm.Cond.code (⟨"java/lang/String", "equals", "(Ljava/lang/Object;)Z"⟩ : MethodName) jdk_42_method_66_code 3 (some .boolean) :: ws) ({ frames := 1, cells := 0, slots := 0, locals := 14 } : Room)) (fun aA U => aA = #[(.ref o0), (.ref o1)] ∧ Z.Warmed39 U.vm ∧ U.heap = h0) (fun _ _ _ _ _ => True) (fun _ U o U' => ∃ v L, o = .returned v ∧ Q_equals_15 Z h0 n0 v U'.heap L ∧ FrameEnd U o U' L ({ frames := 1, cells := 0, slots := 0, locals := 14 } : Room).cells ({ frames := 1, cells := 0, slots := 0, locals := 14 } : Room).slots) := by
  refine MetFree.of_bodySF (plainFor_of_name own_pn_java_lang_String) hisR ?_
  intro p e s m args below meth c s₁ Bd hml0 hP hK
  obtain ⟨rfl, hZ, hh⟩ := hP
  have hx := Bd.exec
  have hby := Bd.bytes
  have hlk : meth.locks = false := BodyLoose.notSynchronized Bd
  have hml : c.maxLocals = 3 := hml0
  have hown : s.vm.findClass "java/lang/String" = some m.cls := findClass_of_methodNamed Bd.named
  have hnm := (name_of_methodNamed Bd.named Bd.method).1
  have X0 : Stand p l e ({ frames := 1, cells := 0, slots := 0, locals := 14 } : Room) s m #[(.ref o0), (.ref o1)] below meth c s₁ [] 0 0 := Stand.of_body Bd
  have e0 : s₁.heap = h0 := by rw [← hh, Bd.state]; rfl
  have N0 := Fr.nil n0
  show own_Go p e below (own_K s (Q_equals_15 Z h0 n0) ({ frames := 1, cells := 0, slots := 0, locals := 14 } : Room).cells ({ frames := 1, cells := 0, slots := 0, locals := 14 } : Room).slots) (s₁.setTop (entryFrame m #[(.ref o0), (.ref o1)] 3))
  rw [(by first | (simp [entryFrame, mkF, argsToLocals, Value.category]; done) | rfl : entryFrame m #[(.ref o0), (.ref o1)] 3 = mkF m 0 #[.val (.ref o0), .val (.ref o1), .unset] [])]
  show own_Go p e below _ (s₁.setTop (mkF m 0 #[.val (.ref o0), .val (.ref o1), .unset] []))
  refine own_go (fun _ hr => XS.aloadN X0.here hx rfl (hb hby own_d_jdk_42_method_66_code_0) rfl rfl (XS.aloadN X0.here hx rfl (hb hby own_d_jdk_42_method_66_code_1) rfl rfl hr)) ?_
  show own_Go p e below _ (s₁.setTop (mkF m 2 #[.val (.ref o0), .val (.ref o1), .unset] [(.ref o1), (.ref o0)]))
  refine own_go (fun _ hr => Jvm.RoadKit.acmp X0 hx rfl rfl rfl (pc0 := 2) (pc' := 7) (same := false) rfl (hb hby own_d_jdk_42_method_66_code_2) rfl (decide_eq_false fun q => ne0p (Value.ref.inj q)) (by decide) (by decide) hr) ?_
  show own_Go p e below _ (s₁.setTop (mkF m 7 #[.val (.ref o0), .val (.ref o1), .unset] []))
  refine own_go (fun _ hr => XS.aloadN X0.here hx rfl (hb hby own_d_jdk_42_method_66_code_7) rfl rfl hr) ?_
  show own_Go p e below _ (s₁.setTop (mkF m 8 #[.val (.ref o0), .val (.ref o1), .unset] [(.ref o1)]))
  obtain ⟨T1, X1, e1, st1⟩ := instY X0 hx hZ hown (hw _ (own_m 60 rfl)) e0 (Ins.self P0) (g := (mkF m 8 #[.val (.ref o0), .val (.ref o1), .unset] [(.ref o1)])) rfl rfl (hb hby own_d_jdk_42_method_66_code_8)
  refine own_go st1 ?_
  show own_Go p e below _ (T1.setTop (mkF m 11 #[.val (.ref o0), .val (.ref o1), .unset] [(.int (1 : Int32))]))
  refine own_go (fun _ hr => XS.ifNo X1.here hx rfl (hb hby own_d_jdk_42_method_66_code_11) rfl ((if0 _ _).trans (feq (by decide)).1) (XS.aloadN X1.here hx rfl (hb hby own_d_jdk_42_method_66_code_14) rfl rfl hr)) ?_
  show own_Go p e below _ (T1.setTop (mkF m 15 #[.val (.ref o0), .val (.ref o1), .unset] [(.ref o1)]))
  obtain ⟨T2, X2, e2, st2⟩ := castY X1 hx hZ hown (hw _ (own_m 60 rfl)) e1 (Ins.self P0) (g := (mkF m 15 #[.val (.ref o0), .val (.ref o1), .unset] [(.ref o1)])) rfl rfl (hb hby own_d_jdk_42_method_66_code_15)
  refine own_go st2 ?_
  show own_Go p e below _ (T2.setTop (mkF m 18 #[.val (.ref o0), .val (.ref o1), .unset] [(.ref o1)]))
  refine own_go (fun _ hr => XS.astoreN X2.here hx rfl (hb hby own_d_jdk_42_method_66_code_18) rfl rfl (l' := #[.val (.ref o0), .val (.ref o1), .val (.ref o1)]) rfl hr) ?_
  show own_Go p e below _ (T2.setTop (mkF m 19 #[.val (.ref o0), .val (.ref o1), .val (.ref o1)] []))
  obtain ⟨T3, X3, e3, st3⟩ := getS2 X2 hx hZ hown (host := "") (Or.inl (hw _ (own_m 44 rfl))) Via.refl e2 P1 (g := (mkF m 19 #[.val (.ref o0), .val (.ref o1), .val (.ref o1)] [])) rfl (hb hby own_d_jdk_42_method_66_code_19)
  refine own_go st3 ?_
  show own_Go p e below _ (T3.setTop (mkF m 22 #[.val (.ref o0), .val (.ref o1), .val (.ref o1)] [(.int y0)]))
  refine own_go (fun _ hr => XS.ifNo X3.here hx rfl (hb hby own_d_jdk_42_method_66_code_22) rfl ((if0 _ _).trans (feq hb0).1) hr) ?_
  show own_Go p e below _ (T3.setTop (mkF m 25 #[.val (.ref o0), .val (.ref o1), .val (.ref o1)] []))
  refine own_go (fun _ hr => XS.aloadN X3.here hx rfl (hb hby own_d_jdk_42_method_66_code_25) rfl rfl hr) ?_
  show own_Go p e below _ (T3.setTop (mkF m 26 #[.val (.ref o0), .val (.ref o1), .val (.ref o1)] [(.ref o0)]))
  obtain ⟨T4, X4, e4, st4⟩ := getF X3 hx hZ hown (host := "") (Or.inl (hw _ (own_m 25 rfl))) Via.refl e3 P2 (g := (mkF m 26 #[.val (.ref o0), .val (.ref o1), .val (.ref o1)] [(.ref o0)])) rfl rfl (hb hby own_d_jdk_42_method_66_code_26)
  refine own_go st4 ?_
  show own_Go p e below _ (T4.setTop (mkF m 29 #[.val (.ref o0), .val (.ref o1), .val (.ref o1)] [(.int (0 : Int32))]))
  refine own_go (fun _ hr => XS.aloadN X4.here hx rfl (hb hby own_d_jdk_42_method_66_code_29) rfl rfl hr) ?_
  show own_Go p e below _ (T4.setTop (mkF m 30 #[.val (.ref o0), .val (.ref o1), .val (.ref o1)] [(.ref o1), (.int (0 : Int32))]))
  obtain ⟨T5, X5, e5, st5⟩ := getF X4 hx hZ hown (host := "") (Or.inl (hw _ (own_m 25 rfl))) Via.refl e4 P3 (g := (mkF m 30 #[.val (.ref o0), .val (.ref o1), .val (.ref o1)] [(.ref o1), (.int (0 : Int32))])) rfl rfl (hb hby own_d_jdk_42_method_66_code_30)
  refine own_go st5 ?_
  show own_Go p e below _ (T5.setTop (mkF m 33 #[.val (.ref o0), .val (.ref o1), .val (.ref o1)] [(.int (0 : Int32)), (.int (0 : Int32))]))
  refine own_go (fun _ hr => XS.icmpNo X5.here hx rfl (hb hby own_d_jdk_42_method_66_code_33) rfl (teq (by decide)).2 (XS.aloadN X5.here hx rfl (hb hby own_d_jdk_42_method_66_code_36) rfl rfl hr)) ?_
  show own_Go p e below _ (T5.setTop (mkF m 37 #[.val (.ref o0), .val (.ref o1), .val (.ref o1)] [(.ref o0)]))
  obtain ⟨T6, X6, e6, st6⟩ := getF X5 hx hZ hown (host := "") (Or.inl (hw _ (own_m 24 rfl))) Via.refl e5 P4 (g := (mkF m 37 #[.val (.ref o0), .val (.ref o1), .val (.ref o1)] [(.ref o0)])) rfl rfl (hb hby own_d_jdk_42_method_66_code_37)
  refine own_go st6 ?_
  show own_Go p e below _ (T6.setTop (mkF m 40 #[.val (.ref o0), .val (.ref o1), .val (.ref o1)] [(.ref o2)]))
  refine own_go (fun _ hr => XS.aloadN X6.here hx rfl (hb hby own_d_jdk_42_method_66_code_40) rfl rfl hr) ?_
  show own_Go p e below _ (T6.setTop (mkF m 41 #[.val (.ref o0), .val (.ref o1), .val (.ref o1)] [(.ref o1), (.ref o2)]))
  obtain ⟨T7, X7, e7, st7⟩ := getF X6 hx hZ hown (host := "") (Or.inl (hw _ (own_m 24 rfl))) Via.refl e6 P5 (g := (mkF m 41 #[.val (.ref o0), .val (.ref o1), .val (.ref o1)] [(.ref o1), (.ref o2)])) rfl rfl (hb hby own_d_jdk_42_method_66_code_41)
  refine own_go st7 ?_
  show own_Go p e below _ (T7.setTop (mkF m 44 #[.val (.ref o0), .val (.ref o1), .val (.ref o1)] [(.ref o3), (.ref o2)]))
  refine own_cs X7 hx hZ hown (hw _ (own_m 61 rfl)) (hw _ (own_m 62 rfl)) (hw _ (own_m 63 rfl)) (hw _ (own_m 64 rfl)) (by decide) (rm := { frames := 0, cells := 0, slots := 0, locals := 0 }) (rm_leq l Z a0 hw [] o2 o3 kc0 kc1 y2 y1 y4 y3 h0 n0 Z0 P6 P7 hb1 hb2 hb3 hb4) (by decide) (W := 0) (by decide) (by decide) (by decide) e7 (by rw [hml]; rfl) (argsL := [(.ref o2), (.ref o3)]) (lenOf own_pd7 rfl) (rest := []) rfl rfl (Nat.le_of_eq rfl) (hb hby own_d_jdk_42_method_66_code_44) ?_
  intro _ T8 L8 X8 hQ8
  obtain ⟨rfl, N8q, e8⟩ := hQ8
  have N8 := Fr.app N0 N8q
  show own_Go p e below _ (T8.setTop (mkF m 47 #[.val (.ref o0), .val (.ref o1), .val (.ref o1)] [(.int (own_leq y2 y1 y4 y3))]))
  refine own_go (fun _ hr => XS.ifYes X8.here hx rfl (pc0 := 47) (pc' := 54) rfl (hb hby own_d_jdk_42_method_66_code_47) rfl ((if0 _ _).trans (teq hb5).1) (by decide) (by decide) hr) ?_
  show own_Go p e below _ (T8.setTop (mkF m 54 #[.val (.ref o0), .val (.ref o1), .val (.ref o1)] []))
  refine own_go (fun _ hr => XS.iconst X8.here hx rfl (hb hby own_d_jdk_42_method_66_code_54) hr) ?_
  show own_Go p e below _ (T8.setTop (mkF m 55 #[.val (.ref o0), .val (.ref o1), .val (.ref o1)] [(.int (0 : Int32))]))
  exact own_retN X8 hx hlk Bd.returns (t := .boolean) (by simp) (hb hby own_d_jdk_42_method_66_code_55) (by decide) (by decide) ⟨rfl, N8, e8⟩
theorem own_pd8 : parseMethodDescriptor "(Ljava/lang/Object;)Z" = some ⟨[(.object "java/lang/Object")], some .boolean⟩ := by decide +kernel
theorem own_d_prog_8_method_2_code_0 : decode prog_8_method_2_code 0 = .ok (.aload_n 0, 1) := by decide +kernel
theorem own_d_prog_8_method_2_code_1 : decode prog_8_method_2_code 1 = .ok (.aload_n 1, 1) := by decide +kernel
theorem own_d_prog_8_method_2_code_2 : decode prog_8_method_2_code 2 = .ok (.if_acmp .ne 5, 3) := by decide +kernel
theorem own_d_prog_8_method_2_code_7 : decode prog_8_method_2_code 7 = .ok (.aload_n 1, 1) := by decide +kernel
theorem own_d_prog_8_method_2_code_8 : decode prog_8_method_2_code 8 = .ok (.instanceof 8, 3) := by decide +kernel
theorem own_d_prog_8_method_2_code_11 : decode prog_8_method_2_code 11 = .ok (.ifCond .eq 11, 3) := by decide +kernel
theorem own_d_prog_8_method_2_code_14 : decode prog_8_method_2_code 14 = .ok (.aload_n 1, 1) := by decide +kernel
theorem own_d_prog_8_method_2_code_15 : decode prog_8_method_2_code 15 = .ok (.checkcast 8, 3) := by decide +kernel
theorem own_d_prog_8_method_2_code_18 : decode prog_8_method_2_code 18 = .ok (.astore_n 2, 1) := by decide +kernel
theorem own_d_prog_8_method_2_code_19 : decode prog_8_method_2_code 19 = .ok (.goto 5, 3) := by decide +kernel
theorem own_d_prog_8_method_2_code_24 : decode prog_8_method_2_code 24 = .ok (.aload_n 0, 1) := by decide +kernel
theorem own_d_prog_8_method_2_code_25 : decode prog_8_method_2_code 25 = .ok (.getfield 13, 3) := by decide +kernel
theorem own_d_prog_8_method_2_code_28 : decode prog_8_method_2_code 28 = .ok (.aload_n 2, 1) := by decide +kernel
theorem own_d_prog_8_method_2_code_29 : decode prog_8_method_2_code 29 = .ok (.getfield 13, 3) := by decide +kernel
theorem own_d_prog_8_method_2_code_32 : decode prog_8_method_2_code 32 = .ok (.if_icmp .ne 21, 3) := by decide +kernel
theorem own_d_prog_8_method_2_code_35 : decode prog_8_method_2_code 35 = .ok (.aload_n 0, 1) := by decide +kernel
theorem own_d_prog_8_method_2_code_36 : decode prog_8_method_2_code 36 = .ok (.getfield 7, 3) := by decide +kernel
theorem own_d_prog_8_method_2_code_39 : decode prog_8_method_2_code 39 = .ok (.aload_n 2, 1) := by decide +kernel
theorem own_d_prog_8_method_2_code_40 : decode prog_8_method_2_code 40 = .ok (.getfield 7, 3) := by decide +kernel
theorem own_d_prog_8_method_2_code_43 : decode prog_8_method_2_code 43 = .ok (.invokevirtual 17, 3) := by decide +kernel
theorem own_d_prog_8_method_2_code_46 : decode prog_8_method_2_code 46 = .ok (.ifCond .eq 7, 3) := by decide +kernel
theorem own_d_prog_8_method_2_code_53 : decode prog_8_method_2_code 53 = .ok (.iconst 0, 1) := by decide +kernel
theorem own_d_prog_8_method_2_code_54 : decode prog_8_method_2_code 54 = .ok (.ireturn, 1) := by decide +kernel
def Q_equals_16 (Z : State) (h0 : Heap) (n0 : Nat) (v : Option Value) (h : Heap) (L : List Loc) : Prop := v = some (.int (0 : Int32)) ∧ Fr n0 L ∧ h = h0
set_option maxRecDepth 65536 in
set_option maxHeartbeats 40000000 in
theorem rm_equals_16 (l : Launch) (Z : State) (a0 : Array Value) (hw : ∀ d ∈ tables_1, d.before a0 Z = true) (ws : List Jvm.Cond) (o0 : Addr) (o1 : Addr) (y0 : Int32) (y1 : Int32) (o2 : Addr) (o3 : Addr) (y2 : Int32) (o4 : Addr) (o5 : Addr) (y3 : Int32) (y4 : Int32) (kc0 : ClassId) (y5 : Int32) (y6 : Int32) (kc1 : ClassId) (h0 : Heap) (n0 : Nat) (Z0 : n0 ≤ h0.size) (P0 : Exa Z h0 o1 "com/example/appenddb/appenddb/TopicQueue") (P1 : Fld Z h0 o0 "com/example/appenddb/appenddb/TopicQueue" "queueId" "I" (.int y0)) (P2 : Fld Z h0 o1 "com/example/appenddb/appenddb/TopicQueue" "queueId" "I" (.int y1)) (P3 : Fld Z h0 o0 "com/example/appenddb/appenddb/TopicQueue" "topic" "Ljava/lang/String;" (.ref o2)) (P4 : Fld Z h0 o1 "com/example/appenddb/appenddb/TopicQueue" "topic" "Ljava/lang/String;" (.ref o3)) (P5 : Exa Z h0 o3 "java/lang/String") (P6 : Sta Z h0 "java/lang/String" "COMPACT_STRINGS" "Z" (.int y2)) (P7 : Fld Z h0 o2 "java/lang/String" "coder" "B" (.int (0 : Int32))) (P8 : Fld Z h0 o3 "java/lang/String" "coder" "B" (.int (0 : Int32))) (P9 : Fld Z h0 o2 "java/lang/String" "value" "[B" (.ref o4)) (P10 : Fld Z h0 o3 "java/lang/String" "value" "[B" (.ref o5)) (P11 : Arv Z h0 o4 kc0 .byte y3 (own_mkl y4 y3) (.int (0 : Int32))) (P12 : Arv Z h0 o5 kc1 .byte y5 (own_mkl y6 y5) (.int (0 : Int32))) (P13 : Exa Z h0 o2 "java/lang/String") (ne0p : o0 ≠ o1) (ne1p : o2 ≠ o3) (hb0 : y0 = y1) (hb1 : ¬ (y2 = (0 : Int32))) (hb2 : ¬ ((2 : Int32) < y3)) (hb3 : ¬ (y3 < (0 : Int32))) (hb4 : ¬ ((2 : Int32) < y5)) (hb5 : ¬ (y5 < (0 : Int32))) (hb6 : (own_leq y4 y3 y6 y5) = (0 : Int32)) :
    MetFree l (⟨"com/example/appenddb/appenddb/TopicQueue", "equals", "(Ljava/lang/Object;)Z"⟩ : MethodName) (head1 (Jvm.Cond.code (⟨"com/example/appenddb/appenddb/TopicQueue", "equals", "(Ljava/lang/Object;)Z"⟩ : MethodName) prog_8_method_2_code 3 (some .boolean) :: ws) ({ frames := 2, cells := 0, slots := 0, locals := 28 } : Room)) (fun aA U => aA = #[(.ref o0), (.ref o1)] ∧ Z.Warmed39 U.vm ∧ U.heap = h0) (fun _ _ _ _ _ => True) (fun _ U o U' => ∃ v L, o = .returned v ∧ Q_equals_16 Z h0 n0 v U'.heap L ∧ FrameEnd U o U' L ({ frames := 2, cells := 0, slots := 0, locals := 28 } : Room).cells ({ frames := 2, cells := 0, slots := 0, locals := 28 } : Room).slots) := by
  refine MetFree.of_bodySF (plainFor_of_name own_pn_com_example_appenddb_appenddb_TopicQueue) hisR ?_
  intro p e s m args below meth c s₁ Bd hml0 hP hK
  obtain ⟨rfl, hZ, hh⟩ := hP
  have hx := Bd.exec
  have hby := Bd.bytes
  have hlk : meth.locks = false := BodyLoose.notSynchronized Bd
  have hml : c.maxLocals = 3 := hml0
  have hown : s.vm.findClass "com/example/appenddb/appenddb/TopicQueue" = some m.cls := findClass_of_methodNamed Bd.named
  have hnm := (name_of_methodNamed Bd.named Bd.method).1
  have X0 : Stand p l e ({ frames := 2, cells := 0, slots := 0, locals := 28 } : Room) s m #[(.ref o0), (.ref o1)] below meth c s₁ [] 0 0 := Stand.of_body Bd
  have e0 : s₁.heap = h0 := by rw [← hh, Bd.state]; rfl
  have N0 := Fr.nil n0
  show own_Go p e below (own_K s (Q_equals_16 Z h0 n0) ({ frames := 2, cells := 0, slots := 0, locals := 28 } : Room).cells ({ frames := 2, cells := 0, slots := 0, locals := 28 } : Room).slots) (s₁.setTop (entryFrame m #[(.ref o0), (.ref o1)] 3))
  rw [(by first | (simp [entryFrame, mkF, argsToLocals, Value.category]; done) | rfl : entryFrame m #[(.ref o0), (.ref o1)] 3 = mkF m 0 #[.val (.ref o0), .val (.ref o1), .unset] [])]
  show own_Go p e below _ (s₁.setTop (mkF m 0 #[.val (.ref o0), .val (.ref o1), .unset] []))
  refine own_go (fun _ hr => XS.aloadN X0.here hx rfl (hb hby own_d_prog_8_method_2_code_0) rfl rfl (XS.aloadN X0.here hx rfl (hb hby own_d_prog_8_method_2_code_1) rfl rfl hr)) ?_
  show own_Go p e below _ (s₁.setTop (mkF m 2 #[.val (.ref o0), .val (.ref o1), .unset] [(.ref o1), (.ref o0)]))
  refine own_go (fun _ hr => Jvm.RoadKit.acmp X0 hx rfl rfl rfl (pc0 := 2) (pc' := 7) (same := false) rfl (hb hby own_d_prog_8_method_2_code_2) rfl (decide_eq_false fun q => ne0p (Value.ref.inj q)) (by decide) (by decide) hr) ?_
  show own_Go p e below _ (s₁.setTop (mkF m 7 #[.val (.ref o0), .val (.ref o1), .unset] []))
  refine own_go (fun _ hr => XS.aloadN X0.here hx rfl (hb hby own_d_prog_8_method_2_code_7) rfl rfl hr) ?_
  show own_Go p e below _ (s₁.setTop (mkF m 8 #[.val (.ref o0), .val (.ref o1), .unset] [(.ref o1)]))
  obtain ⟨T1, X1, e1, st1⟩ := instY X0 hx hZ hown (hw _ (own_m 42 rfl)) e0 (Ins.self P0) (g := (mkF m 8 #[.val (.ref o0), .val (.ref o1), .unset] [(.ref o1)])) rfl rfl (hb hby own_d_prog_8_method_2_code_8)
  refine own_go st1 ?_
  show own_Go p e below _ (T1.setTop (mkF m 11 #[.val (.ref o0), .val (.ref o1), .unset] [(.int (1 : Int32))]))
  refine own_go (fun _ hr => XS.ifNo X1.here hx rfl (hb hby own_d_prog_8_method_2_code_11) rfl ((if0 _ _).trans (feq (by decide)).1) (XS.aloadN X1.here hx rfl (hb hby own_d_prog_8_method_2_code_14) rfl rfl hr)) ?_
  show own_Go p e below _ (T1.setTop (mkF m 15 #[.val (.ref o0), .val (.ref o1), .unset] [(.ref o1)]))
  obtain ⟨T2, X2, e2, st2⟩ := castY X1 hx hZ hown (hw _ (own_m 42 rfl)) e1 (Ins.self P0) (g := (mkF m 15 #[.val (.ref o0), .val (.ref o1), .unset] [(.ref o1)])) rfl rfl (hb hby own_d_prog_8_method_2_code_15)
  refine own_go st2 ?_
  show own_Go p e below _ (T2.setTop (mkF m 18 #[.val (.ref o0), .val (.ref o1), .unset] [(.ref o1)]))
  refine own_go (fun _ hr => XS.astoreN X2.here hx rfl (hb hby own_d_prog_8_method_2_code_18) rfl rfl (l' := #[.val (.ref o0), .val (.ref o1), .val (.ref o1)]) rfl (XS.goto X2.here hx rfl (pc0 := 19) (pc' := 24) rfl (hb hby own_d_prog_8_method_2_code_19) (by decide) (by decide) (XS.aloadN X2.here hx rfl (hb hby own_d_prog_8_method_2_code_24) rfl rfl hr))) ?_
  show own_Go p e below _ (T2.setTop (mkF m 25 #[.val (.ref o0), .val (.ref o1), .val (.ref o1)] [(.ref o0)]))
  obtain ⟨T3, X3, e3, st3⟩ := getF X2 hx hZ hown (host := "") (Or.inl (hw _ (own_m 35 rfl))) Via.refl e2 P1 (g := (mkF m 25 #[.val (.ref o0), .val (.ref o1), .val (.ref o1)] [(.ref o0)])) rfl rfl (hb hby own_d_prog_8_method_2_code_25)
  refine own_go st3 ?_
  show own_Go p e below _ (T3.setTop (mkF m 28 #[.val (.ref o0), .val (.ref o1), .val (.ref o1)] [(.int y0)]))
  refine own_go (fun _ hr => XS.aloadN X3.here hx rfl (hb hby own_d_prog_8_method_2_code_28) rfl rfl hr) ?_
  show own_Go p e below _ (T3.setTop (mkF m 29 #[.val (.ref o0), .val (.ref o1), .val (.ref o1)] [(.ref o1), (.int y0)]))
  obtain ⟨T4, X4, e4, st4⟩ := getF X3 hx hZ hown (host := "") (Or.inl (hw _ (own_m 35 rfl))) Via.refl e3 P2 (g := (mkF m 29 #[.val (.ref o0), .val (.ref o1), .val (.ref o1)] [(.ref o1), (.int y0)])) rfl rfl (hb hby own_d_prog_8_method_2_code_29)
  refine own_go st4 ?_
  show own_Go p e below _ (T4.setTop (mkF m 32 #[.val (.ref o0), .val (.ref o1), .val (.ref o1)] [(.int y1), (.int y0)]))
  refine own_go (fun _ hr => XS.icmpNo X4.here hx rfl (hb hby own_d_prog_8_method_2_code_32) rfl (teq hb0).2 hr) ?_
  show own_Go p e below _ (T4.setTop (mkF m 35 #[.val (.ref o0), .val (.ref o1), .val (.ref o1)] []))
  refine own_go (fun _ hr => XS.aloadN X4.here hx rfl (hb hby own_d_prog_8_method_2_code_35) rfl rfl hr) ?_
  show own_Go p e below _ (T4.setTop (mkF m 36 #[.val (.ref o0), .val (.ref o1), .val (.ref o1)] [(.ref o0)]))
  obtain ⟨T5, X5, e5, st5⟩ := getF X4 hx hZ hown (host := "") (Or.inl (hw _ (own_m 33 rfl))) Via.refl e4 P3 (g := (mkF m 36 #[.val (.ref o0), .val (.ref o1), .val (.ref o1)] [(.ref o0)])) rfl rfl (hb hby own_d_prog_8_method_2_code_36)
  refine own_go st5 ?_
  show own_Go p e below _ (T5.setTop (mkF m 39 #[.val (.ref o0), .val (.ref o1), .val (.ref o1)] [(.ref o2)]))
  refine own_go (fun _ hr => XS.aloadN X5.here hx rfl (hb hby own_d_prog_8_method_2_code_39) rfl rfl hr) ?_
  show own_Go p e below _ (T5.setTop (mkF m 40 #[.val (.ref o0), .val (.ref o1), .val (.ref o1)] [(.ref o1), (.ref o2)]))
  obtain ⟨T6, X6, e6, st6⟩ := getF X5 hx hZ hown (host := "") (Or.inl (hw _ (own_m 33 rfl))) Via.refl e5 P4 (g := (mkF m 40 #[.val (.ref o0), .val (.ref o1), .val (.ref o1)] [(.ref o1), (.ref o2)])) rfl rfl (hb hby own_d_prog_8_method_2_code_40)
  refine own_go st6 ?_
  show own_Go p e below _ (T6.setTop (mkF m 43 #[.val (.ref o0), .val (.ref o1), .val (.ref o1)] [(.ref o3), (.ref o2)]))
  refine own_cv X6 hx hZ hown (notFace_of_selects (args := #[]) (mvT hZ (hw _ (own_m 58 rfl)))) (hw _ (own_m 65 rfl)) (hw _ (own_m 56 rfl)) (hw _ (own_m 58 rfl)) (hw _ (own_m 57 rfl)) (hw _ (own_m 6 rfl)) (hw _ (own_m 59 rfl)) (by decide) P13 (rm := { frames := 1, cells := 0, slots := 0, locals := 14 }) (rm_equals_15 l Z a0 hw [] o2 o3 y2 o4 o5 y3 y4 kc0 y5 y6 kc1 h0 n0 Z0 P5 P6 P7 P8 P9 P10 P11 P12 ne1p hb1 hb2 hb3 hb4 hb5 hb6) (by decide) (W := 0) (by decide) (by decide) (by decide) e6 (by rw [hml]; rfl) (argsL := [(.ref o3)]) (lenOf own_pd8 rfl) (rest := []) rfl rfl (Nat.le_of_eq rfl) (hb hby own_d_prog_8_method_2_code_43) ?_
  intro _ T7 L7 X7 hQ7
  obtain ⟨rfl, N7q, e7⟩ := hQ7
  have N7 := Fr.app N0 N7q
  show own_Go p e below _ (T7.setTop (mkF m 46 #[.val (.ref o0), .val (.ref o1), .val (.ref o1)] [(.int (0 : Int32))]))
  refine own_go (fun _ hr => XS.ifYes X7.here hx rfl (pc0 := 46) (pc' := 53) rfl (hb hby own_d_prog_8_method_2_code_46) rfl ((if0 _ _).trans (teq (by decide)).1) (by decide) (by decide) (XS.iconst X7.here hx rfl (hb hby own_d_prog_8_method_2_code_53) hr)) ?_
  show own_Go p e below _ (T7.setTop (mkF m 54 #[.val (.ref o0), .val (.ref o1), .val (.ref o1)] [(.int (0 : Int32))]))
  exact own_retN X7 hx hlk Bd.returns (t := .boolean) (by simp) (hb hby own_d_prog_8_method_2_code_54) (by decide) (by decide) ⟨rfl, N7, e7⟩
def Q_equals_17 (Z : State) (h0 : Heap) (n0 : Nat) (v : Option Value) (h : Heap) (L : List Loc) : Prop := v = some (.int (1 : Int32)) ∧ Fr n0 L ∧ h = h0
set_option maxRecDepth 65536 in
set_option maxHeartbeats 40000000 in
theorem rm_equals_17 (l : Launch) (Z : State) (a0 : Array Value) (hw : ∀ d ∈ tables_1, d.before a0 Z = true) (ws : List Jvm.Cond) (o0 : Addr) (o1 : Addr) (y0 : Int32) (o2 : Addr) (o3 : Addr) (y1 : Int32) (y2 : Int32) (kc0 : ClassId) (y3 : Int32) (y4 : Int32) (kc1 : ClassId) (h0 : Heap) (n0 : Nat) (Z0 : n0 ≤ h0.size) (P0 : Exa Z h0 o1 "java/lang/String") (P1 : Sta Z h0 "java/lang/String" "COMPACT_STRINGS" "Z" (.int y0)) (P2 : Fld Z h0 o0 "java/lang/String" "coder" "B" (.int (0 : Int32))) (P3 : Fld Z h0 o1 "java/lang/String" "coder" "B" (.int (0 : Int32))) (P4 : Fld Z h0 o0 "java/lang/String" "value" "[B" (.ref o2)) (P5 : Fld Z h0 o1 "java/lang/String" "value" "[B" (.ref o3)) (P6 : Arv Z h0 o2 kc0 .byte y1 (own_mkl y2 y1) (.int (0 : Int32))) (P7 : Arv Z h0 o3 kc1 .byte y3 (own_mkl y4 y3) (.int (0 : Int32))) (ne0p : o0 ≠ o1) (hb0 : ¬ (y0 = (0 : Int32))) (hb1 : ¬ ((2 : Int32) < y1)) (hb2 : ¬ (y1 < (0 : Int32))) (hb3 : ¬ ((2 : Int32) < y3)) (hb4 : ¬ (y3 < (0 : Int32))) (hb5 : ¬ ((own_leq y2 y1 y4 y3) = (0 : Int32))) :
    MetFree l (⟨"java/lang/String", "equals", "(Ljava/lang/Object;)Z"⟩ : MethodName) (head1 (Jvm.Cond.code (⟨"java/lang/String", "equals", "(Ljava/lang/Object;)Z"⟩ : MethodName) jdk_42_method_66_code 3 (some .boolean) :: ws) ({ frames := 1, cells := 0, slots := 0, locals := 14 } : Room)) (fun aA U => aA = #[(.ref o0), (.ref o1)] ∧ Z.Warmed39 U.vm ∧ U.heap = h0) (fun _ _ _ _ _ => True) (fun _ U o U' => ∃ v L, o = .returned v ∧ Q_equals_17 Z h0 n0 v U'.heap L ∧ FrameEnd U o U' L ({ frames := 1, cells := 0, slots := 0, locals := 14 } : Room).cells ({ frames := 1, cells := 0, slots := 0, locals := 14 } : Room).slots) := by
  refine MetFree.of_bodySF (plainFor_of_name own_pn_java_lang_String) hisR ?_
  intro p e s m args below meth c s₁ Bd hml0 hP hK
  obtain ⟨rfl, hZ, hh⟩ := hP
  have hx := Bd.exec
  have hby := Bd.bytes
  have hlk : meth.locks = false := BodyLoose.notSynchronized Bd
  have hml : c.maxLocals = 3 := hml0
  have hown : s.vm.findClass "java/lang/String" = some m.cls := findClass_of_methodNamed Bd.named
  have hnm := (name_of_methodNamed Bd.named Bd.method).1
  have X0 : Stand p l e ({ frames := 1, cells := 0, slots := 0, locals := 14 } : Room) s m #[(.ref o0), (.ref o1)] below meth c s₁ [] 0 0 := Stand.of_body Bd
  have e0 : s₁.heap = h0 := by rw [← hh, Bd.state]; rfl
  have N0 := Fr.nil n0
  show own_Go p e below (own_K s (Q_equals_17 Z h0 n0) ({ frames := 1, cells := 0, slots := 0, locals := 14 } : Room).cells ({ frames := 1, cells := 0, slots := 0, locals := 14 } : Room).slots) (s₁.setTop (entryFrame m #[(.ref o0), (.ref o1)] 3))
  rw [(by first | (simp [entryFrame, mkF, argsToLocals, Value.category]; done) | rfl : entryFrame m #[(.ref o0), (.ref o1)] 3 = mkF m 0 #[.val (.ref o0), .val (.ref o1), .unset] [])]
  show own_Go p e below _ (s₁.setTop (mkF m 0 #[.val (.ref o0), .val (.ref o1), .unset] []))
  refine own_go (fun _ hr => XS.aloadN X0.here hx rfl (hb hby own_d_jdk_42_method_66_code_0) rfl rfl (XS.aloadN X0.here hx rfl (hb hby own_d_jdk_42_method_66_code_1) rfl rfl hr)) ?_
  show own_Go p e below _ (s₁.setTop (mkF m 2 #[.val (.ref o0), .val (.ref o1), .unset] [(.ref o1), (.ref o0)]))
  refine own_go (fun _ hr => Jvm.RoadKit.acmp X0 hx rfl rfl rfl (pc0 := 2) (pc' := 7) (same := false) rfl (hb hby own_d_jdk_42_method_66_code_2) rfl (decide_eq_false fun q => ne0p (Value.ref.inj q)) (by decide) (by decide) hr) ?_
  show own_Go p e below _ (s₁.setTop (mkF m 7 #[.val (.ref o0), .val (.ref o1), .unset] []))
  refine own_go (fun _ hr => XS.aloadN X0.here hx rfl (hb hby own_d_jdk_42_method_66_code_7) rfl rfl hr) ?_
  show own_Go p e below _ (s₁.setTop (mkF m 8 #[.val (.ref o0), .val (.ref o1), .unset] [(.ref o1)]))
  obtain ⟨T1, X1, e1, st1⟩ := instY X0 hx hZ hown (hw _ (own_m 60 rfl)) e0 (Ins.self P0) (g := (mkF m 8 #[.val (.ref o0), .val (.ref o1), .unset] [(.ref o1)])) rfl rfl (hb hby own_d_jdk_42_method_66_code_8)
  refine own_go st1 ?_
  show own_Go p e below _ (T1.setTop (mkF m 11 #[.val (.ref o0), .val (.ref o1), .unset] [(.int (1 : Int32))]))
  refine own_go (fun _ hr => XS.ifNo X1.here hx rfl (hb hby own_d_jdk_42_method_66_code_11) rfl ((if0 _ _).trans (feq (by decide)).1) (XS.aloadN X1.here hx rfl (hb hby own_d_jdk_42_method_66_code_14) rfl rfl hr)) ?_
  show own_Go p e below _ (T1.setTop (mkF m 15 #[.val (.ref o0), .val (.ref o1), .unset] [(.ref o1)]))
  obtain ⟨T2, X2, e2, st2⟩ := castY X1 hx hZ hown (hw _ (own_m 60 rfl)) e1 (Ins.self P0) (g := (mkF m 15 #[.val (.ref o0), .val (.ref o1), .unset] [(.ref o1)])) rfl rfl (hb hby own_d_jdk_42_method_66_code_15)
  refine own_go st2 ?_
  show own_Go p e below _ (T2.setTop (mkF m 18 #[.val (.ref o0), .val (.ref o1), .unset] [(.ref o1)]))
  refine own_go (fun _ hr => XS.astoreN X2.here hx rfl (hb hby own_d_jdk_42_method_66_code_18) rfl rfl (l' := #[.val (.ref o0), .val (.ref o1), .val (.ref o1)]) rfl hr) ?_
  show own_Go p e below _ (T2.setTop (mkF m 19 #[.val (.ref o0), .val (.ref o1), .val (.ref o1)] []))
  obtain ⟨T3, X3, e3, st3⟩ := getS2 X2 hx hZ hown (host := "") (Or.inl (hw _ (own_m 44 rfl))) Via.refl e2 P1 (g := (mkF m 19 #[.val (.ref o0), .val (.ref o1), .val (.ref o1)] [])) rfl (hb hby own_d_jdk_42_method_66_code_19)
  refine own_go st3 ?_
  show own_Go p e below _ (T3.setTop (mkF m 22 #[.val (.ref o0), .val (.ref o1), .val (.ref o1)] [(.int y0)]))
  refine own_go (fun _ hr => XS.ifNo X3.here hx rfl (hb hby own_d_jdk_42_method_66_code_22) rfl ((if0 _ _).trans (feq hb0).1) hr) ?_
  show own_Go p e below _ (T3.setTop (mkF m 25 #[.val (.ref o0), .val (.ref o1), .val (.ref o1)] []))
  refine own_go (fun _ hr => XS.aloadN X3.here hx rfl (hb hby own_d_jdk_42_method_66_code_25) rfl rfl hr) ?_
  show own_Go p e below _ (T3.setTop (mkF m 26 #[.val (.ref o0), .val (.ref o1), .val (.ref o1)] [(.ref o0)]))
  obtain ⟨T4, X4, e4, st4⟩ := getF X3 hx hZ hown (host := "") (Or.inl (hw _ (own_m 25 rfl))) Via.refl e3 P2 (g := (mkF m 26 #[.val (.ref o0), .val (.ref o1), .val (.ref o1)] [(.ref o0)])) rfl rfl (hb hby own_d_jdk_42_method_66_code_26)
  refine own_go st4 ?_
  show own_Go p e below _ (T4.setTop (mkF m 29 #[.val (.ref o0), .val (.ref o1), .val (.ref o1)] [(.int (0 : Int32))]))
  refine own_go (fun _ hr => XS.aloadN X4.here hx rfl (hb hby own_d_jdk_42_method_66_code_29) rfl rfl hr) ?_
  show own_Go p e below _ (T4.setTop (mkF m 30 #[.val (.ref o0), .val (.ref o1), .val (.ref o1)] [(.ref o1), (.int (0 : Int32))]))
  obtain ⟨T5, X5, e5, st5⟩ := getF X4 hx hZ hown (host := "") (Or.inl (hw _ (own_m 25 rfl))) Via.refl e4 P3 (g := (mkF m 30 #[.val (.ref o0), .val (.ref o1), .val (.ref o1)] [(.ref o1), (.int (0 : Int32))])) rfl rfl (hb hby own_d_jdk_42_method_66_code_30)
  refine own_go st5 ?_
  show own_Go p e below _ (T5.setTop (mkF m 33 #[.val (.ref o0), .val (.ref o1), .val (.ref o1)] [(.int (0 : Int32)), (.int (0 : Int32))]))
  refine own_go (fun _ hr => XS.icmpNo X5.here hx rfl (hb hby own_d_jdk_42_method_66_code_33) rfl (teq (by decide)).2 (XS.aloadN X5.here hx rfl (hb hby own_d_jdk_42_method_66_code_36) rfl rfl hr)) ?_
  show own_Go p e below _ (T5.setTop (mkF m 37 #[.val (.ref o0), .val (.ref o1), .val (.ref o1)] [(.ref o0)]))
  obtain ⟨T6, X6, e6, st6⟩ := getF X5 hx hZ hown (host := "") (Or.inl (hw _ (own_m 24 rfl))) Via.refl e5 P4 (g := (mkF m 37 #[.val (.ref o0), .val (.ref o1), .val (.ref o1)] [(.ref o0)])) rfl rfl (hb hby own_d_jdk_42_method_66_code_37)
  refine own_go st6 ?_
  show own_Go p e below _ (T6.setTop (mkF m 40 #[.val (.ref o0), .val (.ref o1), .val (.ref o1)] [(.ref o2)]))
  refine own_go (fun _ hr => XS.aloadN X6.here hx rfl (hb hby own_d_jdk_42_method_66_code_40) rfl rfl hr) ?_
  show own_Go p e below _ (T6.setTop (mkF m 41 #[.val (.ref o0), .val (.ref o1), .val (.ref o1)] [(.ref o1), (.ref o2)]))
  obtain ⟨T7, X7, e7, st7⟩ := getF X6 hx hZ hown (host := "") (Or.inl (hw _ (own_m 24 rfl))) Via.refl e6 P5 (g := (mkF m 41 #[.val (.ref o0), .val (.ref o1), .val (.ref o1)] [(.ref o1), (.ref o2)])) rfl rfl (hb hby own_d_jdk_42_method_66_code_41)
  refine own_go st7 ?_
  show own_Go p e below _ (T7.setTop (mkF m 44 #[.val (.ref o0), .val (.ref o1), .val (.ref o1)] [(.ref o3), (.ref o2)]))
  refine own_cs X7 hx hZ hown (hw _ (own_m 61 rfl)) (hw _ (own_m 62 rfl)) (hw _ (own_m 63 rfl)) (hw _ (own_m 64 rfl)) (by decide) (rm := { frames := 0, cells := 0, slots := 0, locals := 0 }) (rm_leq l Z a0 hw [] o2 o3 kc0 kc1 y2 y1 y4 y3 h0 n0 Z0 P6 P7 hb1 hb2 hb3 hb4) (by decide) (W := 0) (by decide) (by decide) (by decide) e7 (by rw [hml]; rfl) (argsL := [(.ref o2), (.ref o3)]) (lenOf own_pd7 rfl) (rest := []) rfl rfl (Nat.le_of_eq rfl) (hb hby own_d_jdk_42_method_66_code_44) ?_
  intro _ T8 L8 X8 hQ8
  obtain ⟨rfl, N8q, e8⟩ := hQ8
  have N8 := Fr.app N0 N8q
  show own_Go p e below _ (T8.setTop (mkF m 47 #[.val (.ref o0), .val (.ref o1), .val (.ref o1)] [(.int (own_leq y2 y1 y4 y3))]))
  refine own_go (fun _ hr => XS.ifNo X8.here hx rfl (hb hby own_d_jdk_42_method_66_code_47) rfl ((if0 _ _).trans (feq hb5).1) hr) ?_
  show own_Go p e below _ (T8.setTop (mkF m 50 #[.val (.ref o0), .val (.ref o1), .val (.ref o1)] []))
  refine own_go (fun _ hr => XS.iconst X8.here hx rfl (hb hby own_d_jdk_42_method_66_code_50) (XS.goto X8.here hx rfl (pc0 := 51) (pc' := 55) rfl (hb hby own_d_jdk_42_method_66_code_51) (by decide) (by decide) hr)) ?_
  show own_Go p e below _ (T8.setTop (mkF m 55 #[.val (.ref o0), .val (.ref o1), .val (.ref o1)] [(.int (1 : Int32))]))
  exact own_retN X8 hx hlk Bd.returns (t := .boolean) (by simp) (hb hby own_d_jdk_42_method_66_code_55) (by decide) (by decide) ⟨rfl, N8, e8⟩
theorem own_d_prog_8_method_2_code_49 : decode prog_8_method_2_code 49 = .ok (.iconst 1, 1) := by decide +kernel
theorem own_d_prog_8_method_2_code_50 : decode prog_8_method_2_code 50 = .ok (.goto 4, 3) := by decide +kernel
def Q_equals_18 (Z : State) (h0 : Heap) (n0 : Nat) (v : Option Value) (h : Heap) (L : List Loc) : Prop := v = some (.int (1 : Int32)) ∧ Fr n0 L ∧ h = h0
set_option maxRecDepth 65536 in
set_option maxHeartbeats 40000000 in
theorem rm_equals_18 (l : Launch) (Z : State) (a0 : Array Value) (hw : ∀ d ∈ tables_1, d.before a0 Z = true) (ws : List Jvm.Cond) (o0 : Addr) (o1 : Addr) (y0 : Int32) (y1 : Int32) (o2 : Addr) (o3 : Addr) (y2 : Int32) (o4 : Addr) (o5 : Addr) (y3 : Int32) (y4 : Int32) (kc0 : ClassId) (y5 : Int32) (y6 : Int32) (kc1 : ClassId) (h0 : Heap) (n0 : Nat) (Z0 : n0 ≤ h0.size) (P0 : Exa Z h0 o1 "com/example/appenddb/appenddb/TopicQueue") (P1 : Fld Z h0 o0 "com/example/appenddb/appenddb/TopicQueue" "queueId" "I" (.int y0)) (P2 : Fld Z h0 o1 "com/example/appenddb/appenddb/TopicQueue" "queueId" "I" (.int y1)) (P3 : Fld Z h0 o0 "com/example/appenddb/appenddb/TopicQueue" "topic" "Ljava/lang/String;" (.ref o2)) (P4 : Fld Z h0 o1 "com/example/appenddb/appenddb/TopicQueue" "topic" "Ljava/lang/String;" (.ref o3)) (P5 : Exa Z h0 o3 "java/lang/String") (P6 : Sta Z h0 "java/lang/String" "COMPACT_STRINGS" "Z" (.int y2)) (P7 : Fld Z h0 o2 "java/lang/String" "coder" "B" (.int (0 : Int32))) (P8 : Fld Z h0 o3 "java/lang/String" "coder" "B" (.int (0 : Int32))) (P9 : Fld Z h0 o2 "java/lang/String" "value" "[B" (.ref o4)) (P10 : Fld Z h0 o3 "java/lang/String" "value" "[B" (.ref o5)) (P11 : Arv Z h0 o4 kc0 .byte y3 (own_mkl y4 y3) (.int (0 : Int32))) (P12 : Arv Z h0 o5 kc1 .byte y5 (own_mkl y6 y5) (.int (0 : Int32))) (P13 : Exa Z h0 o2 "java/lang/String") (ne0p : o0 ≠ o1) (ne1p : o2 ≠ o3) (hb0 : y0 = y1) (hb1 : ¬ (y2 = (0 : Int32))) (hb2 : ¬ ((2 : Int32) < y3)) (hb3 : ¬ (y3 < (0 : Int32))) (hb4 : ¬ ((2 : Int32) < y5)) (hb5 : ¬ (y5 < (0 : Int32))) (hb6 : ¬ ((own_leq y4 y3 y6 y5) = (0 : Int32))) :
    MetFree l (⟨"com/example/appenddb/appenddb/TopicQueue", "equals", "(Ljava/lang/Object;)Z"⟩ : MethodName) (head1 (Jvm.Cond.code (⟨"com/example/appenddb/appenddb/TopicQueue", "equals", "(Ljava/lang/Object;)Z"⟩ : MethodName) prog_8_method_2_code 3 (some .boolean) :: ws) ({ frames := 2, cells := 0, slots := 0, locals := 28 } : Room)) (fun aA U => aA = #[(.ref o0), (.ref o1)] ∧ Z.Warmed39 U.vm ∧ U.heap = h0) (fun _ _ _ _ _ => True) (fun _ U o U' => ∃ v L, o = .returned v ∧ Q_equals_18 Z h0 n0 v U'.heap L ∧ FrameEnd U o U' L ({ frames := 2, cells := 0, slots := 0, locals := 28 } : Room).cells ({ frames := 2, cells := 0, slots := 0, locals := 28 } : Room).slots) := by
  refine MetFree.of_bodySF (plainFor_of_name own_pn_com_example_appenddb_appenddb_TopicQueue) hisR ?_
  intro p e s m args below meth c s₁ Bd hml0 hP hK
  obtain ⟨rfl, hZ, hh⟩ := hP
  have hx := Bd.exec
  have hby := Bd.bytes
  have hlk : meth.locks = false := BodyLoose.notSynchronized Bd
  have hml : c.maxLocals = 3 := hml0
  have hown : s.vm.findClass "com/example/appenddb/appenddb/TopicQueue" = some m.cls := findClass_of_methodNamed Bd.named
  have hnm := (name_of_methodNamed Bd.named Bd.method).1
  have X0 : Stand p l e ({ frames := 2, cells := 0, slots := 0, locals := 28 } : Room) s m #[(.ref o0), (.ref o1)] below meth c s₁ [] 0 0 := Stand.of_body Bd
  have e0 : s₁.heap = h0 := by rw [← hh, Bd.state]; rfl
  have N0 := Fr.nil n0
  show own_Go p e below (own_K s (Q_equals_18 Z h0 n0) ({ frames := 2, cells := 0, slots := 0, locals := 28 } : Room).cells ({ frames := 2, cells := 0, slots := 0, locals := 28 } : Room).slots) (s₁.setTop (entryFrame m #[(.ref o0), (.ref o1)] 3))
  rw [(by first | (simp [entryFrame, mkF, argsToLocals, Value.category]; done) | rfl : entryFrame m #[(.ref o0), (.ref o1)] 3 = mkF m 0 #[.val (.ref o0), .val (.ref o1), .unset] [])]
  show own_Go p e below _ (s₁.setTop (mkF m 0 #[.val (.ref o0), .val (.ref o1), .unset] []))
  refine own_go (fun _ hr => XS.aloadN X0.here hx rfl (hb hby own_d_prog_8_method_2_code_0) rfl rfl (XS.aloadN X0.here hx rfl (hb hby own_d_prog_8_method_2_code_1) rfl rfl hr)) ?_
  show own_Go p e below _ (s₁.setTop (mkF m 2 #[.val (.ref o0), .val (.ref o1), .unset] [(.ref o1), (.ref o0)]))
  refine own_go (fun _ hr => Jvm.RoadKit.acmp X0 hx rfl rfl rfl (pc0 := 2) (pc' := 7) (same := false) rfl (hb hby own_d_prog_8_method_2_code_2) rfl (decide_eq_false fun q => ne0p (Value.ref.inj q)) (by decide) (by decide) hr) ?_
  show own_Go p e below _ (s₁.setTop (mkF m 7 #[.val (.ref o0), .val (.ref o1), .unset] []))
  refine own_go (fun _ hr => XS.aloadN X0.here hx rfl (hb hby own_d_prog_8_method_2_code_7) rfl rfl hr) ?_
  show own_Go p e below _ (s₁.setTop (mkF m 8 #[.val (.ref o0), .val (.ref o1), .unset] [(.ref o1)]))
  obtain ⟨T1, X1, e1, st1⟩ := instY X0 hx hZ hown (hw _ (own_m 42 rfl)) e0 (Ins.self P0) (g := (mkF m 8 #[.val (.ref o0), .val (.ref o1), .unset] [(.ref o1)])) rfl rfl (hb hby own_d_prog_8_method_2_code_8)
  refine own_go st1 ?_
  show own_Go p e below _ (T1.setTop (mkF m 11 #[.val (.ref o0), .val (.ref o1), .unset] [(.int (1 : Int32))]))
  refine own_go (fun _ hr => XS.ifNo X1.here hx rfl (hb hby own_d_prog_8_method_2_code_11) rfl ((if0 _ _).trans (feq (by decide)).1) (XS.aloadN X1.here hx rfl (hb hby own_d_prog_8_method_2_code_14) rfl rfl hr)) ?_
  show own_Go p e below _ (T1.setTop (mkF m 15 #[.val (.ref o0), .val (.ref o1), .unset] [(.ref o1)]))
  obtain ⟨T2, X2, e2, st2⟩ := castY X1 hx hZ hown (hw _ (own_m 42 rfl)) e1 (Ins.self P0) (g := (mkF m 15 #[.val (.ref o0), .val (.ref o1), .unset] [(.ref o1)])) rfl rfl (hb hby own_d_prog_8_method_2_code_15)
  refine own_go st2 ?_
  show own_Go p e below _ (T2.setTop (mkF m 18 #[.val (.ref o0), .val (.ref o1), .unset] [(.ref o1)]))
  refine own_go (fun _ hr => XS.astoreN X2.here hx rfl (hb hby own_d_prog_8_method_2_code_18) rfl rfl (l' := #[.val (.ref o0), .val (.ref o1), .val (.ref o1)]) rfl (XS.goto X2.here hx rfl (pc0 := 19) (pc' := 24) rfl (hb hby own_d_prog_8_method_2_code_19) (by decide) (by decide) (XS.aloadN X2.here hx rfl (hb hby own_d_prog_8_method_2_code_24) rfl rfl hr))) ?_
  show own_Go p e below _ (T2.setTop (mkF m 25 #[.val (.ref o0), .val (.ref o1), .val (.ref o1)] [(.ref o0)]))
  obtain ⟨T3, X3, e3, st3⟩ := getF X2 hx hZ hown (host := "") (Or.inl (hw _ (own_m 35 rfl))) Via.refl e2 P1 (g := (mkF m 25 #[.val (.ref o0), .val (.ref o1), .val (.ref o1)] [(.ref o0)])) rfl rfl (hb hby own_d_prog_8_method_2_code_25)
  refine own_go st3 ?_
  show own_Go p e below _ (T3.setTop (mkF m 28 #[.val (.ref o0), .val (.ref o1), .val (.ref o1)] [(.int y0)]))
  refine own_go (fun _ hr => XS.aloadN X3.here hx rfl (hb hby own_d_prog_8_method_2_code_28) rfl rfl hr) ?_
  show own_Go p e below _ (T3.setTop (mkF m 29 #[.val (.ref o0), .val (.ref o1), .val (.ref o1)] [(.ref o1), (.int y0)]))
  obtain ⟨T4, X4, e4, st4⟩ := getF X3 hx hZ hown (host := "") (Or.inl (hw _ (own_m 35 rfl))) Via.refl e3 P2 (g := (mkF m 29 #[.val (.ref o0), .val (.ref o1), .val (.ref o1)] [(.ref o1), (.int y0)])) rfl rfl (hb hby own_d_prog_8_method_2_code_29)
  refine own_go st4 ?_
  show own_Go p e below _ (T4.setTop (mkF m 32 #[.val (.ref o0), .val (.ref o1), .val (.ref o1)] [(.int y1), (.int y0)]))
  refine own_go (fun _ hr => XS.icmpNo X4.here hx rfl (hb hby own_d_prog_8_method_2_code_32) rfl (teq hb0).2 hr) ?_
  show own_Go p e below _ (T4.setTop (mkF m 35 #[.val (.ref o0), .val (.ref o1), .val (.ref o1)] []))
  refine own_go (fun _ hr => XS.aloadN X4.here hx rfl (hb hby own_d_prog_8_method_2_code_35) rfl rfl hr) ?_
  show own_Go p e below _ (T4.setTop (mkF m 36 #[.val (.ref o0), .val (.ref o1), .val (.ref o1)] [(.ref o0)]))
  obtain ⟨T5, X5, e5, st5⟩ := getF X4 hx hZ hown (host := "") (Or.inl (hw _ (own_m 33 rfl))) Via.refl e4 P3 (g := (mkF m 36 #[.val (.ref o0), .val (.ref o1), .val (.ref o1)] [(.ref o0)])) rfl rfl (hb hby own_d_prog_8_method_2_code_36)
  refine own_go st5 ?_
  show own_Go p e below _ (T5.setTop (mkF m 39 #[.val (.ref o0), .val (.ref o1), .val (.ref o1)] [(.ref o2)]))
  refine own_go (fun _ hr => XS.aloadN X5.here hx rfl (hb hby own_d_prog_8_method_2_code_39) rfl rfl hr) ?_
  show own_Go p e below _ (T5.setTop (mkF m 40 #[.val (.ref o0), .val (.ref o1), .val (.ref o1)] [(.ref o1), (.ref o2)]))
  obtain ⟨T6, X6, e6, st6⟩ := getF X5 hx hZ hown (host := "") (Or.inl (hw _ (own_m 33 rfl))) Via.refl e5 P4 (g := (mkF m 40 #[.val (.ref o0), .val (.ref o1), .val (.ref o1)] [(.ref o1), (.ref o2)])) rfl rfl (hb hby own_d_prog_8_method_2_code_40)
  refine own_go st6 ?_
  show own_Go p e below _ (T6.setTop (mkF m 43 #[.val (.ref o0), .val (.ref o1), .val (.ref o1)] [(.ref o3), (.ref o2)]))
  refine own_cv X6 hx hZ hown (notFace_of_selects (args := #[]) (mvT hZ (hw _ (own_m 58 rfl)))) (hw _ (own_m 65 rfl)) (hw _ (own_m 56 rfl)) (hw _ (own_m 58 rfl)) (hw _ (own_m 57 rfl)) (hw _ (own_m 6 rfl)) (hw _ (own_m 59 rfl)) (by decide) P13 (rm := { frames := 1, cells := 0, slots := 0, locals := 14 }) (rm_equals_17 l Z a0 hw [] o2 o3 y2 o4 o5 y3 y4 kc0 y5 y6 kc1 h0 n0 Z0 P5 P6 P7 P8 P9 P10 P11 P12 ne1p hb1 hb2 hb3 hb4 hb5 hb6) (by decide) (W := 0) (by decide) (by decide) (by decide) e6 (by rw [hml]; rfl) (argsL := [(.ref o3)]) (lenOf own_pd8 rfl) (rest := []) rfl rfl (Nat.le_of_eq rfl) (hb hby own_d_prog_8_method_2_code_43) ?_
  intro _ T7 L7 X7 hQ7
  obtain ⟨rfl, N7q, e7⟩ := hQ7
  have N7 := Fr.app N0 N7q
  show own_Go p e below _ (T7.setTop (mkF m 46 #[.val (.ref o0), .val (.ref o1), .val (.ref o1)] [(.int (1 : Int32))]))
  refine own_go (fun _ hr => XS.ifNo X7.here hx rfl (hb hby own_d_prog_8_method_2_code_46) rfl ((if0 _ _).trans (feq (by decide)).1) (XS.iconst X7.here hx rfl (hb hby own_d_prog_8_method_2_code_49) (XS.goto X7.here hx rfl (pc0 := 50) (pc' := 54) rfl (hb hby own_d_prog_8_method_2_code_50) (by decide) (by decide) hr))) ?_
  show own_Go p e below _ (T7.setTop (mkF m 54 #[.val (.ref o0), .val (.ref o1), .val (.ref o1)] [(.int (1 : Int32))]))
  exact own_retN X7 hx hlk Bd.returns (t := .boolean) (by simp) (hb hby own_d_prog_8_method_2_code_54) (by decide) (by decide) ⟨rfl, N7, e7⟩
def Q_equals_19 (Z : State) (h0 : Heap) (n0 : Nat) (v : Option Value) (h : Heap) (L : List Loc) : Prop := v = some (.int (0 : Int32)) ∧ Fr n0 L ∧ h = h0
set_option maxRecDepth 65536 in
set_option maxHeartbeats 40000000 in
theorem rm_equals_19 (l : Launch) (Z : State) (a0 : Array Value) (hw : ∀ d ∈ tables_1, d.before a0 Z = true) (ws : List Jvm.Cond) (o0 : Addr) (o1 : Addr) (y0 : Int32) (y1 : Int32) (h0 : Heap) (n0 : Nat) (Z0 : n0 ≤ h0.size) (P0 : Exa Z h0 o1 "com/example/appenddb/appenddb/TopicQueue") (P1 : Fld Z h0 o0 "com/example/appenddb/appenddb/TopicQueue" "queueId" "I" (.int y0)) (P2 : Fld Z h0 o1 "com/example/appenddb/appenddb/TopicQueue" "queueId" "I" (.int y1)) (ne0p : o0 ≠ o1) (hb0 : ¬ (y0 = y1)) :
    MetFree l (⟨"com/example/appenddb/appenddb/TopicQueue", "equals", "(Ljava/lang/Object;)Z"⟩ : MethodName) (head1 (Jvm.Cond.code (⟨"com/example/appenddb/appenddb/TopicQueue", "equals", "(Ljava/lang/Object;)Z"⟩ : MethodName) prog_8_method_2_code 3 (some .boolean) :: ws) ({ frames := 0, cells := 0, slots := 0, locals := 0 } : Room)) (fun aA U => aA = #[(.ref o0), (.ref o1)] ∧ Z.Warmed39 U.vm ∧ U.heap = h0) (fun _ _ _ _ _ => True) (fun _ U o U' => ∃ v L, o = .returned v ∧ Q_equals_19 Z h0 n0 v U'.heap L ∧ FrameEnd U o U' L ({ frames := 0, cells := 0, slots := 0, locals := 0 } : Room).cells ({ frames := 0, cells := 0, slots := 0, locals := 0 } : Room).slots) := by
  refine MetFree.of_bodySF (plainFor_of_name own_pn_com_example_appenddb_appenddb_TopicQueue) hisR ?_
  intro p e s m args below meth c s₁ Bd hml0 hP hK
  obtain ⟨rfl, hZ, hh⟩ := hP
  have hx := Bd.exec
  have hby := Bd.bytes
  have hlk : meth.locks = false := BodyLoose.notSynchronized Bd
  have hml : c.maxLocals = 3 := hml0
  have hown : s.vm.findClass "com/example/appenddb/appenddb/TopicQueue" = some m.cls := findClass_of_methodNamed Bd.named
  have hnm := (name_of_methodNamed Bd.named Bd.method).1
  have X0 : Stand p l e ({ frames := 0, cells := 0, slots := 0, locals := 0 } : Room) s m #[(.ref o0), (.ref o1)] below meth c s₁ [] 0 0 := Stand.of_body Bd
  have e0 : s₁.heap = h0 := by rw [← hh, Bd.state]; rfl
  have N0 := Fr.nil n0
  show own_Go p e below (own_K s (Q_equals_19 Z h0 n0) ({ frames := 0, cells := 0, slots := 0, locals := 0 } : Room).cells ({ frames := 0, cells := 0, slots := 0, locals := 0 } : Room).slots) (s₁.setTop (entryFrame m #[(.ref o0), (.ref o1)] 3))
  rw [(by first | (simp [entryFrame, mkF, argsToLocals, Value.category]; done) | rfl : entryFrame m #[(.ref o0), (.ref o1)] 3 = mkF m 0 #[.val (.ref o0), .val (.ref o1), .unset] [])]
  show own_Go p e below _ (s₁.setTop (mkF m 0 #[.val (.ref o0), .val (.ref o1), .unset] []))
  refine own_go (fun _ hr => XS.aloadN X0.here hx rfl (hb hby own_d_prog_8_method_2_code_0) rfl rfl (XS.aloadN X0.here hx rfl (hb hby own_d_prog_8_method_2_code_1) rfl rfl hr)) ?_
  show own_Go p e below _ (s₁.setTop (mkF m 2 #[.val (.ref o0), .val (.ref o1), .unset] [(.ref o1), (.ref o0)]))
  refine own_go (fun _ hr => Jvm.RoadKit.acmp X0 hx rfl rfl rfl (pc0 := 2) (pc' := 7) (same := false) rfl (hb hby own_d_prog_8_method_2_code_2) rfl (decide_eq_false fun q => ne0p (Value.ref.inj q)) (by decide) (by decide) hr) ?_
  show own_Go p e below _ (s₁.setTop (mkF m 7 #[.val (.ref o0), .val (.ref o1), .unset] []))
  refine own_go (fun _ hr => XS.aloadN X0.here hx rfl (hb hby own_d_prog_8_method_2_code_7) rfl rfl hr) ?_
  show own_Go p e below _ (s₁.setTop (mkF m 8 #[.val (.ref o0), .val (.ref o1), .unset] [(.ref o1)]))
  obtain ⟨T1, X1, e1, st1⟩ := instY X0 hx hZ hown (hw _ (own_m 42 rfl)) e0 (Ins.self P0) (g := (mkF m 8 #[.val (.ref o0), .val (.ref o1), .unset] [(.ref o1)])) rfl rfl (hb hby own_d_prog_8_method_2_code_8)
  refine own_go st1 ?_
  show own_Go p e below _ (T1.setTop (mkF m 11 #[.val (.ref o0), .val (.ref o1), .unset] [(.int (1 : Int32))]))
  refine own_go (fun _ hr => XS.ifNo X1.here hx rfl (hb hby own_d_prog_8_method_2_code_11) rfl ((if0 _ _).trans (feq (by decide)).1) (XS.aloadN X1.here hx rfl (hb hby own_d_prog_8_method_2_code_14) rfl rfl hr)) ?_
  show own_Go p e below _ (T1.setTop (mkF m 15 #[.val (.ref o0), .val (.ref o1), .unset] [(.ref o1)]))
  obtain ⟨T2, X2, e2, st2⟩ := castY X1 hx hZ hown (hw _ (own_m 42 rfl)) e1 (Ins.self P0) (g := (mkF m 15 #[.val (.ref o0), .val (.ref o1), .unset] [(.ref o1)])) rfl rfl (hb hby own_d_prog_8_method_2_code_15)
  refine own_go st2 ?_
  show own_Go p e below _ (T2.setTop (mkF m 18 #[.val (.ref o0), .val (.ref o1), .unset] [(.ref o1)]))
  refine own_go (fun _ hr => XS.astoreN X2.here hx rfl (hb hby own_d_prog_8_method_2_code_18) rfl rfl (l' := #[.val (.ref o0), .val (.ref o1), .val (.ref o1)]) rfl (XS.goto X2.here hx rfl (pc0 := 19) (pc' := 24) rfl (hb hby own_d_prog_8_method_2_code_19) (by decide) (by decide) (XS.aloadN X2.here hx rfl (hb hby own_d_prog_8_method_2_code_24) rfl rfl hr))) ?_
  show own_Go p e below _ (T2.setTop (mkF m 25 #[.val (.ref o0), .val (.ref o1), .val (.ref o1)] [(.ref o0)]))
  obtain ⟨T3, X3, e3, st3⟩ := getF X2 hx hZ hown (host := "") (Or.inl (hw _ (own_m 35 rfl))) Via.refl e2 P1 (g := (mkF m 25 #[.val (.ref o0), .val (.ref o1), .val (.ref o1)] [(.ref o0)])) rfl rfl (hb hby own_d_prog_8_method_2_code_25)
  refine own_go st3 ?_
  show own_Go p e below _ (T3.setTop (mkF m 28 #[.val (.ref o0), .val (.ref o1), .val (.ref o1)] [(.int y0)]))
  refine own_go (fun _ hr => XS.aloadN X3.here hx rfl (hb hby own_d_prog_8_method_2_code_28) rfl rfl hr) ?_
  show own_Go p e below _ (T3.setTop (mkF m 29 #[.val (.ref o0), .val (.ref o1), .val (.ref o1)] [(.ref o1), (.int y0)]))
  obtain ⟨T4, X4, e4, st4⟩ := getF X3 hx hZ hown (host := "") (Or.inl (hw _ (own_m 35 rfl))) Via.refl e3 P2 (g := (mkF m 29 #[.val (.ref o0), .val (.ref o1), .val (.ref o1)] [(.ref o1), (.int y0)])) rfl rfl (hb hby own_d_prog_8_method_2_code_29)
  refine own_go st4 ?_
  show own_Go p e below _ (T4.setTop (mkF m 32 #[.val (.ref o0), .val (.ref o1), .val (.ref o1)] [(.int y1), (.int y0)]))
  refine own_go (fun _ hr => XS.icmpYes X4.here hx rfl (pc0 := 32) (pc' := 53) rfl (hb hby own_d_prog_8_method_2_code_32) rfl (feq hb0).2 (by decide) (by decide) hr) ?_
  show own_Go p e below _ (T4.setTop (mkF m 53 #[.val (.ref o0), .val (.ref o1), .val (.ref o1)] []))
  refine own_go (fun _ hr => XS.iconst X4.here hx rfl (hb hby own_d_prog_8_method_2_code_53) hr) ?_
  show own_Go p e below _ (T4.setTop (mkF m 54 #[.val (.ref o0), .val (.ref o1), .val (.ref o1)] [(.int (0 : Int32))]))
  exact own_retN X4 hx hlk Bd.returns (t := .boolean) (by simp) (hb hby own_d_prog_8_method_2_code_54) (by decide) (by decide) ⟨rfl, N0, e4⟩
theorem own_d_prog_8_method_2_code_5 : decode prog_8_method_2_code 5 = .ok (.iconst 1, 1) := by decide +kernel
theorem own_d_prog_8_method_2_code_6 : decode prog_8_method_2_code 6 = .ok (.ireturn, 1) := by decide +kernel
def Q_equals_20 (Z : State) (h0 : Heap) (n0 : Nat) (v : Option Value) (h : Heap) (L : List Loc) : Prop := v = some (.int (1 : Int32)) ∧ Fr n0 L ∧ h = h0
set_option maxRecDepth 65536 in
set_option maxHeartbeats 40000000 in
theorem rm_equals_20 (l : Launch) (Z : State) (a0 : Array Value) (hw : ∀ d ∈ tables_1, d.before a0 Z = true) (ws : List Jvm.Cond) (o0 : Addr) (h0 : Heap) (n0 : Nat) (Z0 : n0 ≤ h0.size) :
    MetFree l (⟨"com/example/appenddb/appenddb/TopicQueue", "equals", "(Ljava/lang/Object;)Z"⟩ : MethodName) (head1 (Jvm.Cond.code (⟨"com/example/appenddb/appenddb/TopicQueue", "equals", "(Ljava/lang/Object;)Z"⟩ : MethodName) prog_8_method_2_code 3 (some .boolean) :: ws) ({ frames := 0, cells := 0, slots := 0, locals := 0 } : Room)) (fun aA U => aA = #[(.ref o0), (.ref o0)] ∧ Z.Warmed39 U.vm ∧ U.heap = h0) (fun _ _ _ _ _ => True) (fun _ U o U' => ∃ v L, o = .returned v ∧ Q_equals_20 Z h0 n0 v U'.heap L ∧ FrameEnd U o U' L ({ frames := 0, cells := 0, slots := 0, locals := 0 } : Room).cells ({ frames := 0, cells := 0, slots := 0, locals := 0 } : Room).slots) := by
  refine MetFree.of_bodySF (plainFor_of_name own_pn_com_example_appenddb_appenddb_TopicQueue) hisR ?_
  intro p e s m args below meth c s₁ Bd hml0 hP hK
  obtain ⟨rfl, hZ, hh⟩ := hP
  have hx := Bd.exec
  have hby := Bd.bytes
  have hlk : meth.locks = false := BodyLoose.notSynchronized Bd
  have hml : c.maxLocals = 3 := hml0
  have hown : s.vm.findClass "com/example/appenddb/appenddb/TopicQueue" = some m.cls := findClass_of_methodNamed Bd.named
  have hnm := (name_of_methodNamed Bd.named Bd.method).1
  have X0 : Stand p l e ({ frames := 0, cells := 0, slots := 0, locals := 0 } : Room) s m #[(.ref o0), (.ref o0)] below meth c s₁ [] 0 0 := Stand.of_body Bd
  have e0 : s₁.heap = h0 := by rw [← hh, Bd.state]; rfl
  have N0 := Fr.nil n0
  show own_Go p e below (own_K s (Q_equals_20 Z h0 n0) ({ frames := 0, cells := 0, slots := 0, locals := 0 } : Room).cells ({ frames := 0, cells := 0, slots := 0, locals := 0 } : Room).slots) (s₁.setTop (entryFrame m #[(.ref o0), (.ref o0)] 3))
  rw [(by first | (simp [entryFrame, mkF, argsToLocals, Value.category]; done) | rfl : entryFrame m #[(.ref o0), (.ref o0)] 3 = mkF m 0 #[.val (.ref o0), .val (.ref o0), .unset] [])]
  show own_Go p e below _ (s₁.setTop (mkF m 0 #[.val (.ref o0), .val (.ref o0), .unset] []))
  refine own_go (fun _ hr => XS.aloadN X0.here hx rfl (hb hby own_d_prog_8_method_2_code_0) rfl rfl (XS.aloadN X0.here hx rfl (hb hby own_d_prog_8_method_2_code_1) rfl rfl hr)) ?_
  show own_Go p e below _ (s₁.setTop (mkF m 2 #[.val (.ref o0), .val (.ref o0), .unset] [(.ref o0), (.ref o0)]))
  refine own_go (fun _ hr => Jvm.RoadKit.acmp X0 hx rfl rfl rfl (pc0 := 2) (pc' := 5) (same := true) rfl (hb hby own_d_prog_8_method_2_code_2) rfl (decide_eq_true rfl) (by decide) (by decide) hr) ?_
  show own_Go p e below _ (s₁.setTop (mkF m 5 #[.val (.ref o0), .val (.ref o0), .unset] []))
  refine own_go (fun _ hr => XS.iconst X0.here hx rfl (hb hby own_d_prog_8_method_2_code_5) hr) ?_
  show own_Go p e below _ (s₁.setTop (mkF m 6 #[.val (.ref o0), .val (.ref o0), .unset] [(.int (1 : Int32))]))
  exact own_retN X0 hx hlk Bd.returns (t := .boolean) (by simp) (hb hby own_d_prog_8_method_2_code_6) (by decide) (by decide) ⟨rfl, N0, e0⟩
theorem own_d_prog_8_method_2_code_22 : decode prog_8_method_2_code 22 = .ok (.iconst 0, 1) := by decide +kernel
theorem own_d_prog_8_method_2_code_23 : decode prog_8_method_2_code 23 = .ok (.ireturn, 1) := by decide +kernel
def Q_equals_21 (Z : State) (h0 : Heap) (n0 : Nat) (v : Option Value) (h : Heap) (L : List Loc) : Prop := v = some (.int (0 : Int32)) ∧ Fr n0 L ∧ h = h0
set_option maxRecDepth 65536 in
set_option maxHeartbeats 40000000 in
theorem rm_equals_21 (l : Launch) (Z : State) (a0 : Array Value) (hw : ∀ d ∈ tables_1, d.before a0 Z = true) (ws : List Jvm.Cond) (o0 : Addr) (h0 : Heap) (n0 : Nat) (Z0 : n0 ≤ h0.size) :
    MetFree l (⟨"com/example/appenddb/appenddb/TopicQueue", "equals", "(Ljava/lang/Object;)Z"⟩ : MethodName) (head1 (Jvm.Cond.code (⟨"com/example/appenddb/appenddb/TopicQueue", "equals", "(Ljava/lang/Object;)Z"⟩ : MethodName) prog_8_method_2_code 3 (some .boolean) :: ws) ({ frames := 0, cells := 0, slots := 0, locals := 0 } : Room)) (fun aA U => aA = #[(.ref o0), .null] ∧ Z.Warmed39 U.vm ∧ U.heap = h0) (fun _ _ _ _ _ => True) (fun _ U o U' => ∃ v L, o = .returned v ∧ Q_equals_21 Z h0 n0 v U'.heap L ∧ FrameEnd U o U' L ({ frames := 0, cells := 0, slots := 0, locals := 0 } : Room).cells ({ frames := 0, cells := 0, slots := 0, locals := 0 } : Room).slots) := by
  refine MetFree.of_bodySF (plainFor_of_name own_pn_com_example_appenddb_appenddb_TopicQueue) hisR ?_
  intro p e s m args below meth c s₁ Bd hml0 hP hK
  obtain ⟨rfl, hZ, hh⟩ := hP
  have hx := Bd.exec
  have hby := Bd.bytes
  have hlk : meth.locks = false := BodyLoose.notSynchronized Bd
  have hml : c.maxLocals = 3 := hml0
  have hown : s.vm.findClass "com/example/appenddb/appenddb/TopicQueue" = some m.cls := findClass_of_methodNamed Bd.named
  have hnm := (name_of_methodNamed Bd.named Bd.method).1
  have X0 : Stand p l e ({ frames := 0, cells := 0, slots := 0, locals := 0 } : Room) s m #[(.ref o0), .null] below meth c s₁ [] 0 0 := Stand.of_body Bd
  have e0 : s₁.heap = h0 := by rw [← hh, Bd.state]; rfl
  have N0 := Fr.nil n0
  show own_Go p e below (own_K s (Q_equals_21 Z h0 n0) ({ frames := 0, cells := 0, slots := 0, locals := 0 } : Room).cells ({ frames := 0, cells := 0, slots := 0, locals := 0 } : Room).slots) (s₁.setTop (entryFrame m #[(.ref o0), .null] 3))
  rw [(by first | (simp [entryFrame, mkF, argsToLocals, Value.category]; done) | rfl : entryFrame m #[(.ref o0), .null] 3 = mkF m 0 #[.val (.ref o0), .val .null, .unset] [])]
  show own_Go p e below _ (s₁.setTop (mkF m 0 #[.val (.ref o0), .val .null, .unset] []))
  refine own_go (fun _ hr => XS.aloadN X0.here hx rfl (hb hby own_d_prog_8_method_2_code_0) rfl rfl (XS.aloadN X0.here hx rfl (hb hby own_d_prog_8_method_2_code_1) rfl rfl hr)) ?_
  show own_Go p e below _ (s₁.setTop (mkF m 2 #[.val (.ref o0), .val .null, .unset] [.null, (.ref o0)]))
  refine own_go (fun _ hr => Jvm.RoadKit.acmp X0 hx rfl rfl rfl (pc0 := 2) (pc' := 7) (same := false) rfl (hb hby own_d_prog_8_method_2_code_2) rfl (decide_eq_false nofun) (by decide) (by decide) hr) ?_
  show own_Go p e below _ (s₁.setTop (mkF m 7 #[.val (.ref o0), .val .null, .unset] []))
  refine own_go (fun _ hr => XS.aloadN X0.here hx rfl (hb hby own_d_prog_8_method_2_code_7) rfl rfl hr) ?_
  show own_Go p e below _ (s₁.setTop (mkF m 8 #[.val (.ref o0), .val .null, .unset] [.null]))
  refine own_go (X0.instanceofNull hx (g := (mkF m 8 #[.val (.ref o0), .val .null, .unset] [.null])) rfl rfl (hb hby own_d_prog_8_method_2_code_8)) ?_
  show own_Go p e below _ (s₁.setTop (mkF m 11 #[.val (.ref o0), .val .null, .unset] [(.int (0 : Int32))]))
  refine own_go (fun _ hr => XS.ifYes X0.here hx rfl (pc0 := 11) (pc' := 22) rfl (hb hby own_d_prog_8_method_2_code_11) rfl ((if0 _ _).trans (teq (by decide)).1) (by decide) (by decide) (XS.iconst X0.here hx rfl (hb hby own_d_prog_8_method_2_code_22) hr)) ?_
  show own_Go p e below _ (s₁.setTop (mkF m 23 #[.val (.ref o0), .val .null, .unset] [(.int (0 : Int32))]))
  exact own_retN X0 hx hlk Bd.returns (t := .boolean) (by simp) (hb hby own_d_prog_8_method_2_code_23) (by decide) (by decide) ⟨rfl, N0, e0⟩
def Q_equals_22 (Z : State) (h0 : Heap) (n0 : Nat) (v : Option Value) (h : Heap) (L : List Loc) : Prop := v = some (.int (0 : Int32)) ∧ Fr n0 L ∧ h = h0
set_option maxRecDepth 65536 in
set_option maxHeartbeats 40000000 in
theorem rm_equals_22 (l : Launch) (Z : State) (a0 : Array Value) (hw : ∀ d ∈ tables_1, d.before a0 Z = true) (ws : List Jvm.Cond) (o0 : Addr) (o1 : Addr) (h0 : Heap) (n0 : Nat) (Z0 : n0 ≤ h0.size) (P0 : Exa Z h0 o1 "java/lang/String") (ne0p : o0 ≠ o1) :
    MetFree l (⟨"com/example/appenddb/appenddb/TopicQueue", "equals", "(Ljava/lang/Object;)Z"⟩ : MethodName) (head1 (Jvm.Cond.code (⟨"com/example/appenddb/appenddb/TopicQueue", "equals", "(Ljava/lang/Object;)Z"⟩ : MethodName) prog_8_method_2_code 3 (some .boolean) :: ws) ({ frames := 0, cells := 0, slots := 0, locals := 0 } : Room)) (fun aA U => aA = #[(.ref o0), (.ref o1)] ∧ Z.Warmed39 U.vm ∧ U.heap = h0) (fun _ _ _ _ _ => True) (fun _ U o U' => ∃ v L, o = .returned v ∧ Q_equals_22 Z h0 n0 v U'.heap L ∧ FrameEnd U o U' L ({ frames := 0, cells := 0, slots := 0, locals := 0 } : Room).cells ({ frames := 0, cells := 0, slots := 0, locals := 0 } : Room).slots) := by
  refine MetFree.of_bodySF (plainFor_of_name own_pn_com_example_appenddb_appenddb_TopicQueue) hisR ?_
  intro p e s m args below meth c s₁ Bd hml0 hP hK
  obtain ⟨rfl, hZ, hh⟩ := hP
  have hx := Bd.exec
  have hby := Bd.bytes
  have hlk : meth.locks = false := BodyLoose.notSynchronized Bd
  have hml : c.maxLocals = 3 := hml0
  have hown : s.vm.findClass "com/example/appenddb/appenddb/TopicQueue" = some m.cls := findClass_of_methodNamed Bd.named
  have hnm := (name_of_methodNamed Bd.named Bd.method).1
  have X0 : Stand p l e ({ frames := 0, cells := 0, slots := 0, locals := 0 } : Room) s m #[(.ref o0), (.ref o1)] below meth c s₁ [] 0 0 := Stand.of_body Bd
  have e0 : s₁.heap = h0 := by rw [← hh, Bd.state]; rfl
  have N0 := Fr.nil n0
  show own_Go p e below (own_K s (Q_equals_22 Z h0 n0) ({ frames := 0, cells := 0, slots := 0, locals := 0 } : Room).cells ({ frames := 0, cells := 0, slots := 0, locals := 0 } : Room).slots) (s₁.setTop (entryFrame m #[(.ref o0), (.ref o1)] 3))
  rw [(by first | (simp [entryFrame, mkF, argsToLocals, Value.category]; done) | rfl : entryFrame m #[(.ref o0), (.ref o1)] 3 = mkF m 0 #[.val (.ref o0), .val (.ref o1), .unset] [])]
  show own_Go p e below _ (s₁.setTop (mkF m 0 #[.val (.ref o0), .val (.ref o1), .unset] []))
  refine own_go (fun _ hr => XS.aloadN X0.here hx rfl (hb hby own_d_prog_8_method_2_code_0) rfl rfl (XS.aloadN X0.here hx rfl (hb hby own_d_prog_8_method_2_code_1) rfl rfl hr)) ?_
  show own_Go p e below _ (s₁.setTop (mkF m 2 #[.val (.ref o0), .val (.ref o1), .unset] [(.ref o1), (.ref o0)]))
  refine own_go (fun _ hr => Jvm.RoadKit.acmp X0 hx rfl rfl rfl (pc0 := 2) (pc' := 7) (same := false) rfl (hb hby own_d_prog_8_method_2_code_2) rfl (decide_eq_false fun q => ne0p (Value.ref.inj q)) (by decide) (by decide) hr) ?_
  show own_Go p e below _ (s₁.setTop (mkF m 7 #[.val (.ref o0), .val (.ref o1), .unset] []))
  refine own_go (fun _ hr => XS.aloadN X0.here hx rfl (hb hby own_d_prog_8_method_2_code_7) rfl rfl hr) ?_
  show own_Go p e below _ (s₁.setTop (mkF m 8 #[.val (.ref o0), .val (.ref o1), .unset] [(.ref o1)]))
  obtain ⟨T1, X1, e1, st1⟩ := instNo X0 hx hZ hown (hw _ (own_m 42 rfl)) e0 P0 (own_nsno (hw _ (own_m 66 rfl)) (hw _ (own_m 27 rfl)) (NS.step (hw _ (own_m 66 rfl)) (own_nsroot (hw _ (own_m 67 rfl)) (hw _ (own_m 27 rfl)) (by decide)) (by decide)) (by decide)) (g := (mkF m 8 #[.val (.ref o0), .val (.ref o1), .unset] [(.ref o1)])) rfl rfl (hb hby own_d_prog_8_method_2_code_8)
  refine own_go st1 ?_
  show own_Go p e below _ (T1.setTop (mkF m 11 #[.val (.ref o0), .val (.ref o1), .unset] [(.int (0 : Int32))]))
  refine own_go (fun _ hr => XS.ifYes X1.here hx rfl (pc0 := 11) (pc' := 22) rfl (hb hby own_d_prog_8_method_2_code_11) rfl ((if0 _ _).trans (teq (by decide)).1) (by decide) (by decide) (XS.iconst X1.here hx rfl (hb hby own_d_prog_8_method_2_code_22) hr)) ?_
  show own_Go p e below _ (T1.setTop (mkF m 23 #[.val (.ref o0), .val (.ref o1), .unset] [(.int (0 : Int32))]))
  exact own_retN X1 hx hlk Bd.returns (t := .boolean) (by simp) (hb hby own_d_prog_8_method_2_code_23) (by decide) (by decide) ⟨rfl, N0, e1⟩
def Q_equals_23 (Z : State) (h0 : Heap) (n0 : Nat) (v : Option Value) (h : Heap) (L : List Loc) : Prop := v = some (.int (0 : Int32)) ∧ Fr n0 L ∧ h = h0
set_option maxRecDepth 65536 in
set_option maxHeartbeats 40000000 in
theorem rm_equals_23 (l : Launch) (Z : State) (a0 : Array Value) (hw : ∀ d ∈ tables_1, d.before a0 Z = true) (ws : List Jvm.Cond) (o0 : Addr) (o1 : Addr) (y0 : Int32) (o2 : Addr) (o3 : Addr) (y1 : Int32) (o4 : Addr) (o5 : Addr) (y2 : Int32) (y3 : Int32) (kc0 : ClassId) (y4 : Int32) (y5 : Int32) (kc1 : ClassId) (h0 : Heap) (n0 : Nat) (Z0 : n0 ≤ h0.size) (P0 : Exa Z h0 o1 "com/example/appenddb/appenddb/TopicQueue") (P1 : Fld Z h0 o0 "com/example/appenddb/appenddb/TopicQueue" "queueId" "I" (.int y0)) (P2 : Fld Z h0 o1 "com/example/appenddb/appenddb/TopicQueue" "queueId" "I" (.int y0)) (P3 : Fld Z h0 o0 "com/example/appenddb/appenddb/TopicQueue" "topic" "Ljava/lang/String;" (.ref o2)) (P4 : Fld Z h0 o1 "com/example/appenddb/appenddb/TopicQueue" "topic" "Ljava/lang/String;" (.ref o3)) (P5 : Exa Z h0 o3 "java/lang/String") (P6 : Sta Z h0 "java/lang/String" "COMPACT_STRINGS" "Z" (.int y1)) (P7 : Fld Z h0 o2 "java/lang/String" "coder" "B" (.int (0 : Int32))) (P8 : Fld Z h0 o3 "java/lang/String" "coder" "B" (.int (0 : Int32))) (P9 : Fld Z h0 o2 "java/lang/String" "value" "[B" (.ref o4)) (P10 : Fld Z h0 o3 "java/lang/String" "value" "[B" (.ref o5)) (P11 : Arv Z h0 o4 kc0 .byte y2 (own_mkl y3 y2) (.int (0 : Int32))) (P12 : Arv Z h0 o5 kc1 .byte y4 (own_mkl y5 y4) (.int (0 : Int32))) (P13 : Exa Z h0 o2 "java/lang/String") (ne0p : o0 ≠ o1) (ne1p : o2 ≠ o3) (hb0 : ¬ (y1 = (0 : Int32))) (hb1 : ¬ ((2 : Int32) < y2)) (hb2 : ¬ (y2 < (0 : Int32))) (hb3 : ¬ ((2 : Int32) < y4)) (hb4 : ¬ (y4 < (0 : Int32))) (hb5 : (own_leq y3 y2 y5 y4) = (0 : Int32)) :
    MetFree l (⟨"com/example/appenddb/appenddb/TopicQueue", "equals", "(Ljava/lang/Object;)Z"⟩ : MethodName) (head1 (Jvm.Cond.code (⟨"com/example/appenddb/appenddb/TopicQueue", "equals", "(Ljava/lang/Object;)Z"⟩ : MethodName) prog_8_method_2_code 3 (some .boolean) :: ws) ({ frames := 2, cells := 0, slots := 0, locals := 28 } : Room)) (fun aA U => aA = #[(.ref o0), (.ref o1)] ∧ Z.Warmed39 U.vm ∧ U.heap = h0) (fun _ _ _ _ _ => True) (fun _ U o U' => ∃ v L, o = .returned v ∧ Q_equals_23 Z h0 n0 v U'.heap L ∧ FrameEnd U o U' L ({ frames := 2, cells := 0, slots := 0, locals := 28 } : Room).cells ({ frames := 2, cells := 0, slots := 0, locals := 28 } : Room).slots) := by
  refine MetFree.of_bodySF (plainFor_of_name own_pn_com_example_appenddb_appenddb_TopicQueue) hisR ?_
  intro p e s m args below meth c s₁ Bd hml0 hP hK
  obtain ⟨rfl, hZ, hh⟩ := hP
  have hx := Bd.exec
  have hby := Bd.bytes
  have hlk : meth.locks = false := BodyLoose.notSynchronized Bd
  have hml : c.maxLocals = 3 := hml0
  have hown : s.vm.findClass "com/example/appenddb/appenddb/TopicQueue" = some m.cls := findClass_of_methodNamed Bd.named
  have hnm := (name_of_methodNamed Bd.named Bd.method).1
  have X0 : Stand p l e ({ frames := 2, cells := 0, slots := 0, locals := 28 } : Room) s m #[(.ref o0), (.ref o1)] below meth c s₁ [] 0 0 := Stand.of_body Bd
  have e0 : s₁.heap = h0 := by rw [← hh, Bd.state]; rfl
  have N0 := Fr.nil n0
  show own_Go p e below (own_K s (Q_equals_23 Z h0 n0) ({ frames := 2, cells := 0, slots := 0, locals := 28 } : Room).cells ({ frames := 2, cells := 0, slots := 0, locals := 28 } : Room).slots) (s₁.setTop (entryFrame m #[(.ref o0), (.ref o1)] 3))
  rw [(by first | (simp [entryFrame, mkF, argsToLocals, Value.category]; done) | rfl : entryFrame m #[(.ref o0), (.ref o1)] 3 = mkF m 0 #[.val (.ref o0), .val (.ref o1), .unset] [])]
  show own_Go p e below _ (s₁.setTop (mkF m 0 #[.val (.ref o0), .val (.ref o1), .unset] []))
  refine own_go (fun _ hr => XS.aloadN X0.here hx rfl (hb hby own_d_prog_8_method_2_code_0) rfl rfl (XS.aloadN X0.here hx rfl (hb hby own_d_prog_8_method_2_code_1) rfl rfl hr)) ?_
  show own_Go p e below _ (s₁.setTop (mkF m 2 #[.val (.ref o0), .val (.ref o1), .unset] [(.ref o1), (.ref o0)]))
  refine own_go (fun _ hr => Jvm.RoadKit.acmp X0 hx rfl rfl rfl (pc0 := 2) (pc' := 7) (same := false) rfl (hb hby own_d_prog_8_method_2_code_2) rfl (decide_eq_false fun q => ne0p (Value.ref.inj q)) (by decide) (by decide) hr) ?_
  show own_Go p e below _ (s₁.setTop (mkF m 7 #[.val (.ref o0), .val (.ref o1), .unset] []))
  refine own_go (fun _ hr => XS.aloadN X0.here hx rfl (hb hby own_d_prog_8_method_2_code_7) rfl rfl hr) ?_
  show own_Go p e below _ (s₁.setTop (mkF m 8 #[.val (.ref o0), .val (.ref o1), .unset] [(.ref o1)]))
  obtain ⟨T1, X1, e1, st1⟩ := instY X0 hx hZ hown (hw _ (own_m 42 rfl)) e0 (Ins.self P0) (g := (mkF m 8 #[.val (.ref o0), .val (.ref o1), .unset] [(.ref o1)])) rfl rfl (hb hby own_d_prog_8_method_2_code_8)
  refine own_go st1 ?_
  show own_Go p e below _ (T1.setTop (mkF m 11 #[.val (.ref o0), .val (.ref o1), .unset] [(.int (1 : Int32))]))
  refine own_go (fun _ hr => XS.ifNo X1.here hx rfl (hb hby own_d_prog_8_method_2_code_11) rfl ((if0 _ _).trans (feq (by decide)).1) (XS.aloadN X1.here hx rfl (hb hby own_d_prog_8_method_2_code_14) rfl rfl hr)) ?_
  show own_Go p e below _ (T1.setTop (mkF m 15 #[.val (.ref o0), .val (.ref o1), .unset] [(.ref o1)]))
  obtain ⟨T2, X2, e2, st2⟩ := castY X1 hx hZ hown (hw _ (own_m 42 rfl)) e1 (Ins.self P0) (g := (mkF m 15 #[.val (.ref o0), .val (.ref o1), .unset] [(.ref o1)])) rfl rfl (hb hby own_d_prog_8_method_2_code_15)
  refine own_go st2 ?_
  show own_Go p e below _ (T2.setTop (mkF m 18 #[.val (.ref o0), .val (.ref o1), .unset] [(.ref o1)]))
  refine own_go (fun _ hr => XS.astoreN X2.here hx rfl (hb hby own_d_prog_8_method_2_code_18) rfl rfl (l' := #[.val (.ref o0), .val (.ref o1), .val (.ref o1)]) rfl (XS.goto X2.here hx rfl (pc0 := 19) (pc' := 24) rfl (hb hby own_d_prog_8_method_2_code_19) (by decide) (by decide) (XS.aloadN X2.here hx rfl (hb hby own_d_prog_8_method_2_code_24) rfl rfl hr))) ?_
  show own_Go p e below _ (T2.setTop (mkF m 25 #[.val (.ref o0), .val (.ref o1), .val (.ref o1)] [(.ref o0)]))
  obtain ⟨T3, X3, e3, st3⟩ := getF X2 hx hZ hown (host := "") (Or.inl (hw _ (own_m 35 rfl))) Via.refl e2 P1 (g := (mkF m 25 #[.val (.ref o0), .val (.ref o1), .val (.ref o1)] [(.ref o0)])) rfl rfl (hb hby own_d_prog_8_method_2_code_25)
  refine own_go st3 ?_
  show own_Go p e below _ (T3.setTop (mkF m 28 #[.val (.ref o0), .val (.ref o1), .val (.ref o1)] [(.int y0)]))
  refine own_go (fun _ hr => XS.aloadN X3.here hx rfl (hb hby own_d_prog_8_method_2_code_28) rfl rfl hr) ?_
  show own_Go p e below _ (T3.setTop (mkF m 29 #[.val (.ref o0), .val (.ref o1), .val (.ref o1)] [(.ref o1), (.int y0)]))
  obtain ⟨T4, X4, e4, st4⟩ := getF X3 hx hZ hown (host := "") (Or.inl (hw _ (own_m 35 rfl))) Via.refl e3 P2 (g := (mkF m 29 #[.val (.ref o0), .val (.ref o1), .val (.ref o1)] [(.ref o1), (.int y0)])) rfl rfl (hb hby own_d_prog_8_method_2_code_29)
  refine own_go st4 ?_
  show own_Go p e below _ (T4.setTop (mkF m 32 #[.val (.ref o0), .val (.ref o1), .val (.ref o1)] [(.int y0), (.int y0)]))
  refine own_go (fun _ hr => XS.icmpNo X4.here hx rfl (hb hby own_d_prog_8_method_2_code_32) rfl (teq rfl).2 (XS.aloadN X4.here hx rfl (hb hby own_d_prog_8_method_2_code_35) rfl rfl hr)) ?_
  show own_Go p e below _ (T4.setTop (mkF m 36 #[.val (.ref o0), .val (.ref o1), .val (.ref o1)] [(.ref o0)]))
  obtain ⟨T5, X5, e5, st5⟩ := getF X4 hx hZ hown (host := "") (Or.inl (hw _ (own_m 33 rfl))) Via.refl e4 P3 (g := (mkF m 36 #[.val (.ref o0), .val (.ref o1), .val (.ref o1)] [(.ref o0)])) rfl rfl (hb hby own_d_prog_8_method_2_code_36)
  refine own_go st5 ?_
  show own_Go p e below _ (T5.setTop (mkF m 39 #[.val (.ref o0), .val (.ref o1), .val (.ref o1)] [(.ref o2)]))
  refine own_go (fun _ hr => XS.aloadN X5.here hx rfl (hb hby own_d_prog_8_method_2_code_39) rfl rfl hr) ?_
  show own_Go p e below _ (T5.setTop (mkF m 40 #[.val (.ref o0), .val (.ref o1), .val (.ref o1)] [(.ref o1), (.ref o2)]))
  obtain ⟨T6, X6, e6, st6⟩ := getF X5 hx hZ hown (host := "") (Or.inl (hw _ (own_m 33 rfl))) Via.refl e5 P4 (g := (mkF m 40 #[.val (.ref o0), .val (.ref o1), .val (.ref o1)] [(.ref o1), (.ref o2)])) rfl rfl (hb hby own_d_prog_8_method_2_code_40)
  refine own_go st6 ?_
  show own_Go p e below _ (T6.setTop (mkF m 43 #[.val (.ref o0), .val (.ref o1), .val (.ref o1)] [(.ref o3), (.ref o2)]))
  refine own_cv X6 hx hZ hown (notFace_of_selects (args := #[]) (mvT hZ (hw _ (own_m 58 rfl)))) (hw _ (own_m 65 rfl)) (hw _ (own_m 56 rfl)) (hw _ (own_m 58 rfl)) (hw _ (own_m 57 rfl)) (hw _ (own_m 6 rfl)) (hw _ (own_m 59 rfl)) (by decide) P13 (rm := { frames := 1, cells := 0, slots := 0, locals := 14 }) (rm_equals_15 l Z a0 hw [] o2 o3 y1 o4 o5 y2 y3 kc0 y4 y5 kc1 h0 n0 Z0 P5 P6 P7 P8 P9 P10 P11 P12 ne1p hb0 hb1 hb2 hb3 hb4 hb5) (by decide) (W := 0) (by decide) (by decide) (by decide) e6 (by rw [hml]; rfl) (argsL := [(.ref o3)]) (lenOf own_pd8 rfl) (rest := []) rfl rfl (Nat.le_of_eq rfl) (hb hby own_d_prog_8_method_2_code_43) ?_
  intro _ T7 L7 X7 hQ7
  obtain ⟨rfl, N7q, e7⟩ := hQ7
  have N7 := Fr.app N0 N7q
  show own_Go p e below _ (T7.setTop (mkF m 46 #[.val (.ref o0), .val (.ref o1), .val (.ref o1)] [(.int (0 : Int32))]))
  refine own_go (fun _ hr => XS.ifYes X7.here hx rfl (pc0 := 46) (pc' := 53) rfl (hb hby own_d_prog_8_method_2_code_46) rfl ((if0 _ _).trans (teq (by decide)).1) (by decide) (by decide) (XS.iconst X7.here hx rfl (hb hby own_d_prog_8_method_2_code_53) hr)) ?_
  show own_Go p e below _ (T7.setTop (mkF m 54 #[.val (.ref o0), .val (.ref o1), .val (.ref o1)] [(.int (0 : Int32))]))
  exact own_retN X7 hx hlk Bd.returns (t := .boolean) (by simp) (hb hby own_d_prog_8_method_2_code_54) (by decide) (by decide) ⟨rfl, N7, e7⟩
def Q_equals_24 (Z : State) (h0 : Heap) (n0 : Nat) (v : Option Value) (h : Heap) (L : List Loc) : Prop := v = some (.int (1 : Int32)) ∧ Fr n0 L ∧ h = h0
set_option maxRecDepth 65536 in
set_option maxHeartbeats 40000000 in
theorem rm_equals_24 (l : Launch) (Z : State) (a0 : Array Value) (hw : ∀ d ∈ tables_1, d.before a0 Z = true) (ws : List Jvm.Cond) (o0 : Addr) (o1 : Addr) (y0 : Int32) (o2 : Addr) (o3 : Addr) (y1 : Int32) (o4 : Addr) (o5 : Addr) (y2 : Int32) (y3 : Int32) (kc0 : ClassId) (y4 : Int32) (y5 : Int32) (kc1 : ClassId) (h0 : Heap) (n0 : Nat) (Z0 : n0 ≤ h0.size) (P0 : Exa Z h0 o1 "com/example/appenddb/appenddb/TopicQueue") (P1 : Fld Z h0 o0 "com/example/appenddb/appenddb/TopicQueue" "queueId" "I" (.int y0)) (P2 : Fld Z h0 o1 "com/example/appenddb/appenddb/TopicQueue" "queueId" "I" (.int y0)) (P3 : Fld Z h0 o0 "com/example/appenddb/appenddb/TopicQueue" "topic" "Ljava/lang/String;" (.ref o2)) (P4 : Fld Z h0 o1 "com/example/appenddb/appenddb/TopicQueue" "topic" "Ljava/lang/String;" (.ref o3)) (P5 : Exa Z h0 o3 "java/lang/String") (P6 : Sta Z h0 "java/lang/String" "COMPACT_STRINGS" "Z" (.int y1)) (P7 : Fld Z h0 o2 "java/lang/String" "coder" "B" (.int (0 : Int32))) (P8 : Fld Z h0 o3 "java/lang/String" "coder" "B" (.int (0 : Int32))) (P9 : Fld Z h0 o2 "java/lang/String" "value" "[B" (.ref o4)) (P10 : Fld Z h0 o3 "java/lang/String" "value" "[B" (.ref o5)) (P11 : Arv Z h0 o4 kc0 .byte y2 (own_mkl y3 y2) (.int (0 : Int32))) (P12 : Arv Z h0 o5 kc1 .byte y4 (own_mkl y5 y4) (.int (0 : Int32))) (P13 : Exa Z h0 o2 "java/lang/String") (ne0p : o0 ≠ o1) (ne1p : o2 ≠ o3) (hb0 : ¬ (y1 = (0 : Int32))) (hb1 : ¬ ((2 : Int32) < y2)) (hb2 : ¬ (y2 < (0 : Int32))) (hb3 : ¬ ((2 : Int32) < y4)) (hb4 : ¬ (y4 < (0 : Int32))) (hb5 : ¬ ((own_leq y3 y2 y5 y4) = (0 : Int32))) :
    MetFree l (⟨"com/example/appenddb/appenddb/TopicQueue", "equals", "(Ljava/lang/Object;)Z"⟩ : MethodName) (head1 (Jvm.Cond.code (⟨"com/example/appenddb/appenddb/TopicQueue", "equals", "(Ljava/lang/Object;)Z"⟩ : MethodName) prog_8_method_2_code 3 (some .boolean) :: ws) ({ frames := 2, cells := 0, slots := 0, locals := 28 } : Room)) (fun aA U => aA = #[(.ref o0), (.ref o1)] ∧ Z.Warmed39 U.vm ∧ U.heap = h0) (fun _ _ _ _ _ => True) (fun _ U o U' => ∃ v L, o = .returned v ∧ Q_equals_24 Z h0 n0 v U'.heap L ∧ FrameEnd U o U' L ({ frames := 2, cells := 0, slots := 0, locals := 28 } : Room).cells ({ frames := 2, cells := 0, slots := 0, locals := 28 } : Room).slots) := by
  refine MetFree.of_bodySF (plainFor_of_name own_pn_com_example_appenddb_appenddb_TopicQueue) hisR ?_
  intro p e s m args below meth c s₁ Bd hml0 hP hK
  obtain ⟨rfl, hZ, hh⟩ := hP
  have hx := Bd.exec
  have hby := Bd.bytes
  have hlk : meth.locks = false := BodyLoose.notSynchronized Bd
  have hml : c.maxLocals = 3 := hml0
  have hown : s.vm.findClass "com/example/appenddb/appenddb/TopicQueue" = some m.cls := findClass_of_methodNamed Bd.named
  have hnm := (name_of_methodNamed Bd.named Bd.method).1
  have X0 : Stand p l e ({ frames := 2, cells := 0, slots := 0, locals := 28 } : Room) s m #[(.ref o0), (.ref o1)] below meth c s₁ [] 0 0 := Stand.of_body Bd
  have e0 : s₁.heap = h0 := by rw [← hh, Bd.state]; rfl
  have N0 := Fr.nil n0
  show own_Go p e below (own_K s (Q_equals_24 Z h0 n0) ({ frames := 2, cells := 0, slots := 0, locals := 28 } : Room).cells ({ frames := 2, cells := 0, slots := 0, locals := 28 } : Room).slots) (s₁.setTop (entryFrame m #[(.ref o0), (.ref o1)] 3))
  rw [(by first | (simp [entryFrame, mkF, argsToLocals, Value.category]; done) | rfl : entryFrame m #[(.ref o0), (.ref o1)] 3 = mkF m 0 #[.val (.ref o0), .val (.ref o1), .unset] [])]
  show own_Go p e below _ (s₁.setTop (mkF m 0 #[.val (.ref o0), .val (.ref o1), .unset] []))
  refine own_go (fun _ hr => XS.aloadN X0.here hx rfl (hb hby own_d_prog_8_method_2_code_0) rfl rfl (XS.aloadN X0.here hx rfl (hb hby own_d_prog_8_method_2_code_1) rfl rfl hr)) ?_
  show own_Go p e below _ (s₁.setTop (mkF m 2 #[.val (.ref o0), .val (.ref o1), .unset] [(.ref o1), (.ref o0)]))
  refine own_go (fun _ hr => Jvm.RoadKit.acmp X0 hx rfl rfl rfl (pc0 := 2) (pc' := 7) (same := false) rfl (hb hby own_d_prog_8_method_2_code_2) rfl (decide_eq_false fun q => ne0p (Value.ref.inj q)) (by decide) (by decide) hr) ?_
  show own_Go p e below _ (s₁.setTop (mkF m 7 #[.val (.ref o0), .val (.ref o1), .unset] []))
  refine own_go (fun _ hr => XS.aloadN X0.here hx rfl (hb hby own_d_prog_8_method_2_code_7) rfl rfl hr) ?_
  show own_Go p e below _ (s₁.setTop (mkF m 8 #[.val (.ref o0), .val (.ref o1), .unset] [(.ref o1)]))
  obtain ⟨T1, X1, e1, st1⟩ := instY X0 hx hZ hown (hw _ (own_m 42 rfl)) e0 (Ins.self P0) (g := (mkF m 8 #[.val (.ref o0), .val (.ref o1), .unset] [(.ref o1)])) rfl rfl (hb hby own_d_prog_8_method_2_code_8)
  refine own_go st1 ?_
  show own_Go p e below _ (T1.setTop (mkF m 11 #[.val (.ref o0), .val (.ref o1), .unset] [(.int (1 : Int32))]))
  refine own_go (fun _ hr => XS.ifNo X1.here hx rfl (hb hby own_d_prog_8_method_2_code_11) rfl ((if0 _ _).trans (feq (by decide)).1) (XS.aloadN X1.here hx rfl (hb hby own_d_prog_8_method_2_code_14) rfl rfl hr)) ?_
  show own_Go p e below _ (T1.setTop (mkF m 15 #[.val (.ref o0), .val (.ref o1), .unset] [(.ref o1)]))
  obtain ⟨T2, X2, e2, st2⟩ := castY X1 hx hZ hown (hw _ (own_m 42 rfl)) e1 (Ins.self P0) (g := (mkF m 15 #[.val (.ref o0), .val (.ref o1), .unset] [(.ref o1)])) rfl rfl (hb hby own_d_prog_8_method_2_code_15)
  refine own_go st2 ?_
  show own_Go p e below _ (T2.setTop (mkF m 18 #[.val (.ref o0), .val (.ref o1), .unset] [(.ref o1)]))
  refine own_go (fun _ hr => XS.astoreN X2.here hx rfl (hb hby own_d_prog_8_method_2_code_18) rfl rfl (l' := #[.val (.ref o0), .val (.ref o1), .val (.ref o1)]) rfl (XS.goto X2.here hx rfl (pc0 := 19) (pc' := 24) rfl (hb hby own_d_prog_8_method_2_code_19) (by decide) (by decide) (XS.aloadN X2.here hx rfl (hb hby own_d_prog_8_method_2_code_24) rfl rfl hr))) ?_
  show own_Go p e below _ (T2.setTop (mkF m 25 #[.val (.ref o0), .val (.ref o1), .val (.ref o1)] [(.ref o0)]))
  obtain ⟨T3, X3, e3, st3⟩ := getF X2 hx hZ hown (host := "") (Or.inl (hw _ (own_m 35 rfl))) Via.refl e2 P1 (g := (mkF m 25 #[.val (.ref o0), .val (.ref o1), .val (.ref o1)] [(.ref o0)])) rfl rfl (hb hby own_d_prog_8_method_2_code_25)
  refine own_go st3 ?_
  show own_Go p e below _ (T3.setTop (mkF m 28 #[.val (.ref o0), .val (.ref o1), .val (.ref o1)] [(.int y0)]))
  refine own_go (fun _ hr => XS.aloadN X3.here hx rfl (hb hby own_d_prog_8_method_2_code_28) rfl rfl hr) ?_
  show own_Go p e below _ (T3.setTop (mkF m 29 #[.val (.ref o0), .val (.ref o1), .val (.ref o1)] [(.ref o1), (.int y0)]))
  obtain ⟨T4, X4, e4, st4⟩ := getF X3 hx hZ hown (host := "") (Or.inl (hw _ (own_m 35 rfl))) Via.refl e3 P2 (g := (mkF m 29 #[.val (.ref o0), .val (.ref o1), .val (.ref o1)] [(.ref o1), (.int y0)])) rfl rfl (hb hby own_d_prog_8_method_2_code_29)
  refine own_go st4 ?_
  show own_Go p e below _ (T4.setTop (mkF m 32 #[.val (.ref o0), .val (.ref o1), .val (.ref o1)] [(.int y0), (.int y0)]))
  refine own_go (fun _ hr => XS.icmpNo X4.here hx rfl (hb hby own_d_prog_8_method_2_code_32) rfl (teq rfl).2 (XS.aloadN X4.here hx rfl (hb hby own_d_prog_8_method_2_code_35) rfl rfl hr)) ?_
  show own_Go p e below _ (T4.setTop (mkF m 36 #[.val (.ref o0), .val (.ref o1), .val (.ref o1)] [(.ref o0)]))
  obtain ⟨T5, X5, e5, st5⟩ := getF X4 hx hZ hown (host := "") (Or.inl (hw _ (own_m 33 rfl))) Via.refl e4 P3 (g := (mkF m 36 #[.val (.ref o0), .val (.ref o1), .val (.ref o1)] [(.ref o0)])) rfl rfl (hb hby own_d_prog_8_method_2_code_36)
  refine own_go st5 ?_
  show own_Go p e below _ (T5.setTop (mkF m 39 #[.val (.ref o0), .val (.ref o1), .val (.ref o1)] [(.ref o2)]))
  refine own_go (fun _ hr => XS.aloadN X5.here hx rfl (hb hby own_d_prog_8_method_2_code_39) rfl rfl hr) ?_
  show own_Go p e below _ (T5.setTop (mkF m 40 #[.val (.ref o0), .val (.ref o1), .val (.ref o1)] [(.ref o1), (.ref o2)]))
  obtain ⟨T6, X6, e6, st6⟩ := getF X5 hx hZ hown (host := "") (Or.inl (hw _ (own_m 33 rfl))) Via.refl e5 P4 (g := (mkF m 40 #[.val (.ref o0), .val (.ref o1), .val (.ref o1)] [(.ref o1), (.ref o2)])) rfl rfl (hb hby own_d_prog_8_method_2_code_40)
  refine own_go st6 ?_
  show own_Go p e below _ (T6.setTop (mkF m 43 #[.val (.ref o0), .val (.ref o1), .val (.ref o1)] [(.ref o3), (.ref o2)]))
  refine own_cv X6 hx hZ hown (notFace_of_selects (args := #[]) (mvT hZ (hw _ (own_m 58 rfl)))) (hw _ (own_m 65 rfl)) (hw _ (own_m 56 rfl)) (hw _ (own_m 58 rfl)) (hw _ (own_m 57 rfl)) (hw _ (own_m 6 rfl)) (hw _ (own_m 59 rfl)) (by decide) P13 (rm := { frames := 1, cells := 0, slots := 0, locals := 14 }) (rm_equals_17 l Z a0 hw [] o2 o3 y1 o4 o5 y2 y3 kc0 y4 y5 kc1 h0 n0 Z0 P5 P6 P7 P8 P9 P10 P11 P12 ne1p hb0 hb1 hb2 hb3 hb4 hb5) (by decide) (W := 0) (by decide) (by decide) (by decide) e6 (by rw [hml]; rfl) (argsL := [(.ref o3)]) (lenOf own_pd8 rfl) (rest := []) rfl rfl (Nat.le_of_eq rfl) (hb hby own_d_prog_8_method_2_code_43) ?_
  intro _ T7 L7 X7 hQ7
  obtain ⟨rfl, N7q, e7⟩ := hQ7
  have N7 := Fr.app N0 N7q
  show own_Go p e below _ (T7.setTop (mkF m 46 #[.val (.ref o0), .val (.ref o1), .val (.ref o1)] [(.int (1 : Int32))]))
  refine own_go (fun _ hr => XS.ifNo X7.here hx rfl (hb hby own_d_prog_8_method_2_code_46) rfl ((if0 _ _).trans (feq (by decide)).1) (XS.iconst X7.here hx rfl (hb hby own_d_prog_8_method_2_code_49) (XS.goto X7.here hx rfl (pc0 := 50) (pc' := 54) rfl (hb hby own_d_prog_8_method_2_code_50) (by decide) (by decide) hr))) ?_
  show own_Go p e below _ (T7.setTop (mkF m 54 #[.val (.ref o0), .val (.ref o1), .val (.ref o1)] [(.int (1 : Int32))]))
  exact own_retN X7 hx hlk Bd.returns (t := .boolean) (by simp) (hb hby own_d_prog_8_method_2_code_54) (by decide) (by decide) ⟨rfl, N7, e7⟩
def Q_equals_25 (Z : State) (h0 : Heap) (n0 : Nat) (v : Option Value) (h : Heap) (L : List Loc) : Prop := v = some (.int (1 : Int32)) ∧ Fr n0 L ∧ h = h0
set_option maxRecDepth 65536 in
set_option maxHeartbeats 40000000 in
theorem rm_equals_25 (l : Launch) (Z : State) (a0 : Array Value) (hw : ∀ d ∈ tables_1, d.before a0 Z = true) (ws : List Jvm.Cond) (o0 : Addr) (o1 : Addr) (y0 : Int32) (o2 : Addr) (o3 : Addr) (y1 : Int32) (y2 : Int32) (kc0 : ClassId) (kc1 : ClassId) (h0 : Heap) (n0 : Nat) (Z0 : n0 ≤ h0.size) (P0 : Exa Z h0 o1 "java/lang/String") (P1 : Sta Z h0 "java/lang/String" "COMPACT_STRINGS" "Z" (.int y0)) (P2 : Fld Z h0 o0 "java/lang/String" "coder" "B" (.int (0 : Int32))) (P3 : Fld Z h0 o1 "java/lang/String" "coder" "B" (.int (0 : Int32))) (P4 : Fld Z h0 o0 "java/lang/String" "value" "[B" (.ref o2)) (P5 : Fld Z h0 o1 "java/lang/String" "value" "[B" (.ref o3)) (P6 : Arv Z h0 o2 kc0 .byte y1 (own_mkl y2 y1) (.int (0 : Int32))) (P7 : Arv Z h0 o3 kc1 .byte y1 (own_mkl y2 y1) (.int (0 : Int32))) (ne0p : o0 ≠ o1) (hb0 : ¬ (y0 = (0 : Int32))) (hb1 : ¬ ((2 : Int32) < y1)) (hb2 : ¬ (y1 < (0 : Int32))) (hb3 : ¬ ((own_leq y2 y1 y2 y1) = (0 : Int32))) :
    MetFree l (⟨"java/lang/String", "equals", "(Ljava/lang/Object;)Z"⟩ : MethodName) (head1 (Jvm.Cond.code (⟨"java/lang/String", "equals", "(Ljava/lang/Object;)Z"⟩ : MethodName) jdk_42_method_66_code 3 (some .boolean) :: ws) ({ frames := 1, cells := 0, slots := 0, locals := 14 } : Room)) (fun aA U => aA = #[(.ref o0), (.ref o1)] ∧ Z.Warmed39 U.vm ∧ U.heap = h0) (fun _ _ _ _ _ => True) (fun _ U o U' => ∃ v L, o = .returned v ∧ Q_equals_25 Z h0 n0 v U'.heap L ∧ FrameEnd U o U' L ({ frames := 1, cells := 0, slots := 0, locals := 14 } : Room).cells ({ frames := 1, cells := 0, slots := 0, locals := 14 } : Room).slots) := by
  refine MetFree.of_bodySF (plainFor_of_name own_pn_java_lang_String) hisR ?_
  intro p e s m args below meth c s₁ Bd hml0 hP hK
  obtain ⟨rfl, hZ, hh⟩ := hP
  have hx := Bd.exec
  have hby := Bd.bytes
  have hlk : meth.locks = false := BodyLoose.notSynchronized Bd
  have hml : c.maxLocals = 3 := hml0
  have hown : s.vm.findClass "java/lang/String" = some m.cls := findClass_of_methodNamed Bd.named
  have hnm := (name_of_methodNamed Bd.named Bd.method).1
  have X0 : Stand p l e ({ frames := 1, cells := 0, slots := 0, locals := 14 } : Room) s m #[(.ref o0), (.ref o1)] below meth c s₁ [] 0 0 := Stand.of_body Bd
  have e0 : s₁.heap = h0 := by rw [← hh, Bd.state]; rfl
  have N0 := Fr.nil n0
  show own_Go p e below (own_K s (Q_equals_25 Z h0 n0) ({ frames := 1, cells := 0, slots := 0, locals := 14 } : Room).cells ({ frames := 1, cells := 0, slots := 0, locals := 14 } : Room).slots) (s₁.setTop (entryFrame m #[(.ref o0), (.ref o1)] 3))
  rw [(by first | (simp [entryFrame, mkF, argsToLocals, Value.category]; done) | rfl : entryFrame m #[(.ref o0), (.ref o1)] 3 = mkF m 0 #[.val (.ref o0), .val (.ref o1), .unset] [])]
  show own_Go p e below _ (s₁.setTop (mkF m 0 #[.val (.ref o0), .val (.ref o1), .unset] []))
  refine own_go (fun _ hr => XS.aloadN X0.here hx rfl (hb hby own_d_jdk_42_method_66_code_0) rfl rfl (XS.aloadN X0.here hx rfl (hb hby own_d_jdk_42_method_66_code_1) rfl rfl hr)) ?_
  show own_Go p e below _ (s₁.setTop (mkF m 2 #[.val (.ref o0), .val (.ref o1), .unset] [(.ref o1), (.ref o0)]))
  refine own_go (fun _ hr => Jvm.RoadKit.acmp X0 hx rfl rfl rfl (pc0 := 2) (pc' := 7) (same := false) rfl (hb hby own_d_jdk_42_method_66_code_2) rfl (decide_eq_false fun q => ne0p (Value.ref.inj q)) (by decide) (by decide) hr) ?_
  show own_Go p e below _ (s₁.setTop (mkF m 7 #[.val (.ref o0), .val (.ref o1), .unset] []))
  refine own_go (fun _ hr => XS.aloadN X0.here hx rfl (hb hby own_d_jdk_42_method_66_code_7) rfl rfl hr) ?_
  show own_Go p e below _ (s₁.setTop (mkF m 8 #[.val (.ref o0), .val (.ref o1), .unset] [(.ref o1)]))
  obtain ⟨T1, X1, e1, st1⟩ := instY X0 hx hZ hown (hw _ (own_m 60 rfl)) e0 (Ins.self P0) (g := (mkF m 8 #[.val (.ref o0), .val (.ref o1), .unset] [(.ref o1)])) rfl rfl (hb hby own_d_jdk_42_method_66_code_8)
  refine own_go st1 ?_
  show own_Go p e below _ (T1.setTop (mkF m 11 #[.val (.ref o0), .val (.ref o1), .unset] [(.int (1 : Int32))]))
  refine own_go (fun _ hr => XS.ifNo X1.here hx rfl (hb hby own_d_jdk_42_method_66_code_11) rfl ((if0 _ _).trans (feq (by decide)).1) (XS.aloadN X1.here hx rfl (hb hby own_d_jdk_42_method_66_code_14) rfl rfl hr)) ?_
  show own_Go p e below _ (T1.setTop (mkF m 15 #[.val (.ref o0), .val (.ref o1), .unset] [(.ref o1)]))
  obtain ⟨T2, X2, e2, st2⟩ := castY X1 hx hZ hown (hw _ (own_m 60 rfl)) e1 (Ins.self P0) (g := (mkF m 15 #[.val (.ref o0), .val (.ref o1), .unset] [(.ref o1)])) rfl rfl (hb hby own_d_jdk_42_method_66_code_15)
  refine own_go st2 ?_
  show own_Go p e below _ (T2.setTop (mkF m 18 #[.val (.ref o0), .val (.ref o1), .unset] [(.ref o1)]))
  refine own_go (fun _ hr => XS.astoreN X2.here hx rfl (hb hby own_d_jdk_42_method_66_code_18) rfl rfl (l' := #[.val (.ref o0), .val (.ref o1), .val (.ref o1)]) rfl hr) ?_
  show own_Go p e below _ (T2.setTop (mkF m 19 #[.val (.ref o0), .val (.ref o1), .val (.ref o1)] []))
  obtain ⟨T3, X3, e3, st3⟩ := getS2 X2 hx hZ hown (host := "") (Or.inl (hw _ (own_m 44 rfl))) Via.refl e2 P1 (g := (mkF m 19 #[.val (.ref o0), .val (.ref o1), .val (.ref o1)] [])) rfl (hb hby own_d_jdk_42_method_66_code_19)
  refine own_go st3 ?_
  show own_Go p e below _ (T3.setTop (mkF m 22 #[.val (.ref o0), .val (.ref o1), .val (.ref o1)] [(.int y0)]))
  refine own_go (fun _ hr => XS.ifNo X3.here hx rfl (hb hby own_d_jdk_42_method_66_code_22) rfl ((if0 _ _).trans (feq hb0).1) hr) ?_
  show own_Go p e below _ (T3.setTop (mkF m 25 #[.val (.ref o0), .val (.ref o1), .val (.ref o1)] []))
  refine own_go (fun _ hr => XS.aloadN X3.here hx rfl (hb hby own_d_jdk_42_method_66_code_25) rfl rfl hr) ?_
  show own_Go p e below _ (T3.setTop (mkF m 26 #[.val (.ref o0), .val (.ref o1), .val (.ref o1)] [(.ref o0)]))
  obtain ⟨T4, X4, e4, st4⟩ := getF X3 hx hZ hown (host := "") (Or.inl (hw _ (own_m 25 rfl))) Via.refl e3 P2 (g := (mkF m 26 #[.val (.ref o0), .val (.ref o1), .val (.ref o1)] [(.ref o0)])) rfl rfl (hb hby own_d_jdk_42_method_66_code_26)
  refine own_go st4 ?_
  show own_Go p e below _ (T4.setTop (mkF m 29 #[.val (.ref o0), .val (.ref o1), .val (.ref o1)] [(.int (0 : Int32))]))
  refine own_go (fun _ hr => XS.aloadN X4.here hx rfl (hb hby own_d_jdk_42_method_66_code_29) rfl rfl hr) ?_
  show own_Go p e below _ (T4.setTop (mkF m 30 #[.val (.ref o0), .val (.ref o1), .val (.ref o1)] [(.ref o1), (.int (0 : Int32))]))
  obtain ⟨T5, X5, e5, st5⟩ := getF X4 hx hZ hown (host := "") (Or.inl (hw _ (own_m 25 rfl))) Via.refl e4 P3 (g := (mkF m 30 #[.val (.ref o0), .val (.ref o1), .val (.ref o1)] [(.ref o1), (.int (0 : Int32))])) rfl rfl (hb hby own_d_jdk_42_method_66_code_30)
  refine own_go st5 ?_
  show own_Go p e below _ (T5.setTop (mkF m 33 #[.val (.ref o0), .val (.ref o1), .val (.ref o1)] [(.int (0 : Int32)), (.int (0 : Int32))]))
  refine own_go (fun _ hr => XS.icmpNo X5.here hx rfl (hb hby own_d_jdk_42_method_66_code_33) rfl (teq (by decide)).2 (XS.aloadN X5.here hx rfl (hb hby own_d_jdk_42_method_66_code_36) rfl rfl hr)) ?_
  show own_Go p e below _ (T5.setTop (mkF m 37 #[.val (.ref o0), .val (.ref o1), .val (.ref o1)] [(.ref o0)]))
  obtain ⟨T6, X6, e6, st6⟩ := getF X5 hx hZ hown (host := "") (Or.inl (hw _ (own_m 24 rfl))) Via.refl e5 P4 (g := (mkF m 37 #[.val (.ref o0), .val (.ref o1), .val (.ref o1)] [(.ref o0)])) rfl rfl (hb hby own_d_jdk_42_method_66_code_37)
  refine own_go st6 ?_
  show own_Go p e below _ (T6.setTop (mkF m 40 #[.val (.ref o0), .val (.ref o1), .val (.ref o1)] [(.ref o2)]))
  refine own_go (fun _ hr => XS.aloadN X6.here hx rfl (hb hby own_d_jdk_42_method_66_code_40) rfl rfl hr) ?_
  show own_Go p e below _ (T6.setTop (mkF m 41 #[.val (.ref o0), .val (.ref o1), .val (.ref o1)] [(.ref o1), (.ref o2)]))
  obtain ⟨T7, X7, e7, st7⟩ := getF X6 hx hZ hown (host := "") (Or.inl (hw _ (own_m 24 rfl))) Via.refl e6 P5 (g := (mkF m 41 #[.val (.ref o0), .val (.ref o1), .val (.ref o1)] [(.ref o1), (.ref o2)])) rfl rfl (hb hby own_d_jdk_42_method_66_code_41)
  refine own_go st7 ?_
  show own_Go p e below _ (T7.setTop (mkF m 44 #[.val (.ref o0), .val (.ref o1), .val (.ref o1)] [(.ref o3), (.ref o2)]))
  refine own_cs X7 hx hZ hown (hw _ (own_m 61 rfl)) (hw _ (own_m 62 rfl)) (hw _ (own_m 63 rfl)) (hw _ (own_m 64 rfl)) (by decide) (rm := { frames := 0, cells := 0, slots := 0, locals := 0 }) (rm_leq l Z a0 hw [] o2 o3 kc0 kc1 y2 y1 y2 y1 h0 n0 Z0 P6 P7 hb1 hb2 hb1 hb2) (by decide) (W := 0) (by decide) (by decide) (by decide) e7 (by rw [hml]; rfl) (argsL := [(.ref o2), (.ref o3)]) (lenOf own_pd7 rfl) (rest := []) rfl rfl (Nat.le_of_eq rfl) (hb hby own_d_jdk_42_method_66_code_44) ?_
  intro _ T8 L8 X8 hQ8
  obtain ⟨rfl, N8q, e8⟩ := hQ8
  have N8 := Fr.app N0 N8q
  show own_Go p e below _ (T8.setTop (mkF m 47 #[.val (.ref o0), .val (.ref o1), .val (.ref o1)] [(.int (own_leq y2 y1 y2 y1))]))
  refine own_go (fun _ hr => XS.ifNo X8.here hx rfl (hb hby own_d_jdk_42_method_66_code_47) rfl ((if0 _ _).trans (feq hb3).1) hr) ?_
  show own_Go p e below _ (T8.setTop (mkF m 50 #[.val (.ref o0), .val (.ref o1), .val (.ref o1)] []))
  refine own_go (fun _ hr => XS.iconst X8.here hx rfl (hb hby own_d_jdk_42_method_66_code_50) (XS.goto X8.here hx rfl (pc0 := 51) (pc' := 55) rfl (hb hby own_d_jdk_42_method_66_code_51) (by decide) (by decide) hr)) ?_
  show own_Go p e below _ (T8.setTop (mkF m 55 #[.val (.ref o0), .val (.ref o1), .val (.ref o1)] [(.int (1 : Int32))]))
  exact own_retN X8 hx hlk Bd.returns (t := .boolean) (by simp) (hb hby own_d_jdk_42_method_66_code_55) (by decide) (by decide) ⟨rfl, N8, e8⟩
def Q_equals_26 (Z : State) (h0 : Heap) (n0 : Nat) (v : Option Value) (h : Heap) (L : List Loc) : Prop := v = some (.int (1 : Int32)) ∧ Fr n0 L ∧ h = h0
set_option maxRecDepth 65536 in
set_option maxHeartbeats 40000000 in
theorem rm_equals_26 (l : Launch) (Z : State) (a0 : Array Value) (hw : ∀ d ∈ tables_1, d.before a0 Z = true) (ws : List Jvm.Cond) (o0 : Addr) (o1 : Addr) (y0 : Int32) (y1 : Int32) (o2 : Addr) (o3 : Addr) (y2 : Int32) (o4 : Addr) (o5 : Addr) (y3 : Int32) (y4 : Int32) (kc0 : ClassId) (kc1 : ClassId) (h0 : Heap) (n0 : Nat) (Z0 : n0 ≤ h0.size) (P0 : Exa Z h0 o1 "com/example/appenddb/appenddb/TopicQueue") (P1 : Fld Z h0 o0 "com/example/appenddb/appenddb/TopicQueue" "queueId" "I" (.int y0)) (P2 : Fld Z h0 o1 "com/example/appenddb/appenddb/TopicQueue" "queueId" "I" (.int y1)) (P3 : Fld Z h0 o0 "com/example/appenddb/appenddb/TopicQueue" "topic" "Ljava/lang/String;" (.ref o2)) (P4 : Fld Z h0 o1 "com/example/appenddb/appenddb/TopicQueue" "topic" "Ljava/lang/String;" (.ref o3)) (P5 : Exa Z h0 o3 "java/lang/String") (P6 : Sta Z h0 "java/lang/String" "COMPACT_STRINGS" "Z" (.int y2)) (P7 : Fld Z h0 o2 "java/lang/String" "coder" "B" (.int (0 : Int32))) (P8 : Fld Z h0 o3 "java/lang/String" "coder" "B" (.int (0 : Int32))) (P9 : Fld Z h0 o2 "java/lang/String" "value" "[B" (.ref o4)) (P10 : Fld Z h0 o3 "java/lang/String" "value" "[B" (.ref o5)) (P11 : Arv Z h0 o4 kc0 .byte y3 (own_mkl y4 y3) (.int (0 : Int32))) (P12 : Arv Z h0 o5 kc1 .byte y3 (own_mkl y4 y3) (.int (0 : Int32))) (P13 : Exa Z h0 o2 "java/lang/String") (ne0p : o0 ≠ o1) (ne1p : o2 ≠ o3) (hb0 : y0 = y1) (hb1 : ¬ (y2 = (0 : Int32))) (hb2 : ¬ ((2 : Int32) < y3)) (hb3 : ¬ (y3 < (0 : Int32))) (hb4 : ¬ ((own_leq y4 y3 y4 y3) = (0 : Int32))) :
    MetFree l (⟨"com/example/appenddb/appenddb/TopicQueue", "equals", "(Ljava/lang/Object;)Z"⟩ : MethodName) (head1 (Jvm.Cond.code (⟨"com/example/appenddb/appenddb/TopicQueue", "equals", "(Ljava/lang/Object;)Z"⟩ : MethodName) prog_8_method_2_code 3 (some .boolean) :: ws) ({ frames := 2, cells := 0, slots := 0, locals := 28 } : Room)) (fun aA U => aA = #[(.ref o0), (.ref o1)] ∧ Z.Warmed39 U.vm ∧ U.heap = h0) (fun _ _ _ _ _ => True) (fun _ U o U' => ∃ v L, o = .returned v ∧ Q_equals_26 Z h0 n0 v U'.heap L ∧ FrameEnd U o U' L ({ frames := 2, cells := 0, slots := 0, locals := 28 } : Room).cells ({ frames := 2, cells := 0, slots := 0, locals := 28 } : Room).slots) := by
  refine MetFree.of_bodySF (plainFor_of_name own_pn_com_example_appenddb_appenddb_TopicQueue) hisR ?_
  intro p e s m args below meth c s₁ Bd hml0 hP hK
  obtain ⟨rfl, hZ, hh⟩ := hP
  have hx := Bd.exec
  have hby := Bd.bytes
  have hlk : meth.locks = false := BodyLoose.notSynchronized Bd
  have hml : c.maxLocals = 3 := hml0
  have hown : s.vm.findClass "com/example/appenddb/appenddb/TopicQueue" = some m.cls := findClass_of_methodNamed Bd.named
  have hnm := (name_of_methodNamed Bd.named Bd.method).1
  have X0 : Stand p l e ({ frames := 2, cells := 0, slots := 0, locals := 28 } : Room) s m #[(.ref o0), (.ref o1)] below meth c s₁ [] 0 0 := Stand.of_body Bd
  have e0 : s₁.heap = h0 := by rw [← hh, Bd.state]; rfl
  have N0 := Fr.nil n0
  show own_Go p e below (own_K s (Q_equals_26 Z h0 n0) ({ frames := 2, cells := 0, slots := 0, locals := 28 } : Room).cells ({ frames := 2, cells := 0, slots := 0, locals := 28 } : Room).slots) (s₁.setTop (entryFrame m #[(.ref o0), (.ref o1)] 3))
  rw [(by first | (simp [entryFrame, mkF, argsToLocals, Value.category]; done) | rfl : entryFrame m #[(.ref o0), (.ref o1)] 3 = mkF m 0 #[.val (.ref o0), .val (.ref o1), .unset] [])]
  show own_Go p e below _ (s₁.setTop (mkF m 0 #[.val (.ref o0), .val (.ref o1), .unset] []))
  refine own_go (fun _ hr => XS.aloadN X0.here hx rfl (hb hby own_d_prog_8_method_2_code_0) rfl rfl (XS.aloadN X0.here hx rfl (hb hby own_d_prog_8_method_2_code_1) rfl rfl hr)) ?_
  show own_Go p e below _ (s₁.setTop (mkF m 2 #[.val (.ref o0), .val (.ref o1), .unset] [(.ref o1), (.ref o0)]))
  refine own_go (fun _ hr => Jvm.RoadKit.acmp X0 hx rfl rfl rfl (pc0 := 2) (pc' := 7) (same := false) rfl (hb hby own_d_prog_8_method_2_code_2) rfl (decide_eq_false fun q => ne0p (Value.ref.inj q)) (by decide) (by decide) hr) ?_
  show own_Go p e below _ (s₁.setTop (mkF m 7 #[.val (.ref o0), .val (.ref o1), .unset] []))
  refine own_go (fun _ hr => XS.aloadN X0.here hx rfl (hb hby own_d_prog_8_method_2_code_7) rfl rfl hr) ?_
  show own_Go p e below _ (s₁.setTop (mkF m 8 #[.val (.ref o0), .val (.ref o1), .unset] [(.ref o1)]))
  obtain ⟨T1, X1, e1, st1⟩ := instY X0 hx hZ hown (hw _ (own_m 42 rfl)) e0 (Ins.self P0) (g := (mkF m 8 #[.val (.ref o0), .val (.ref o1), .unset] [(.ref o1)])) rfl rfl (hb hby own_d_prog_8_method_2_code_8)
  refine own_go st1 ?_
  show own_Go p e below _ (T1.setTop (mkF m 11 #[.val (.ref o0), .val (.ref o1), .unset] [(.int (1 : Int32))]))
  refine own_go (fun _ hr => XS.ifNo X1.here hx rfl (hb hby own_d_prog_8_method_2_code_11) rfl ((if0 _ _).trans (feq (by decide)).1) (XS.aloadN X1.here hx rfl (hb hby own_d_prog_8_method_2_code_14) rfl rfl hr)) ?_
  show own_Go p e below _ (T1.setTop (mkF m 15 #[.val (.ref o0), .val (.ref o1), .unset] [(.ref o1)]))
  obtain ⟨T2, X2, e2, st2⟩ := castY X1 hx hZ hown (hw _ (own_m 42 rfl)) e1 (Ins.self P0) (g := (mkF m 15 #[.val (.ref o0), .val (.ref o1), .unset] [(.ref o1)])) rfl rfl (hb hby own_d_prog_8_method_2_code_15)
  refine own_go st2 ?_
  show own_Go p e below _ (T2.setTop (mkF m 18 #[.val (.ref o0), .val (.ref o1), .unset] [(.ref o1)]))
  refine own_go (fun _ hr => XS.astoreN X2.here hx rfl (hb hby own_d_prog_8_method_2_code_18) rfl rfl (l' := #[.val (.ref o0), .val (.ref o1), .val (.ref o1)]) rfl (XS.goto X2.here hx rfl (pc0 := 19) (pc' := 24) rfl (hb hby own_d_prog_8_method_2_code_19) (by decide) (by decide) (XS.aloadN X2.here hx rfl (hb hby own_d_prog_8_method_2_code_24) rfl rfl hr))) ?_
  show own_Go p e below _ (T2.setTop (mkF m 25 #[.val (.ref o0), .val (.ref o1), .val (.ref o1)] [(.ref o0)]))
  obtain ⟨T3, X3, e3, st3⟩ := getF X2 hx hZ hown (host := "") (Or.inl (hw _ (own_m 35 rfl))) Via.refl e2 P1 (g := (mkF m 25 #[.val (.ref o0), .val (.ref o1), .val (.ref o1)] [(.ref o0)])) rfl rfl (hb hby own_d_prog_8_method_2_code_25)
  refine own_go st3 ?_
  show own_Go p e below _ (T3.setTop (mkF m 28 #[.val (.ref o0), .val (.ref o1), .val (.ref o1)] [(.int y0)]))
  refine own_go (fun _ hr => XS.aloadN X3.here hx rfl (hb hby own_d_prog_8_method_2_code_28) rfl rfl hr) ?_
  show own_Go p e below _ (T3.setTop (mkF m 29 #[.val (.ref o0), .val (.ref o1), .val (.ref o1)] [(.ref o1), (.int y0)]))
  obtain ⟨T4, X4, e4, st4⟩ := getF X3 hx hZ hown (host := "") (Or.inl (hw _ (own_m 35 rfl))) Via.refl e3 P2 (g := (mkF m 29 #[.val (.ref o0), .val (.ref o1), .val (.ref o1)] [(.ref o1), (.int y0)])) rfl rfl (hb hby own_d_prog_8_method_2_code_29)
  refine own_go st4 ?_
  show own_Go p e below _ (T4.setTop (mkF m 32 #[.val (.ref o0), .val (.ref o1), .val (.ref o1)] [(.int y1), (.int y0)]))
  refine own_go (fun _ hr => XS.icmpNo X4.here hx rfl (hb hby own_d_prog_8_method_2_code_32) rfl (teq hb0).2 hr) ?_
  show own_Go p e below _ (T4.setTop (mkF m 35 #[.val (.ref o0), .val (.ref o1), .val (.ref o1)] []))
  refine own_go (fun _ hr => XS.aloadN X4.here hx rfl (hb hby own_d_prog_8_method_2_code_35) rfl rfl hr) ?_
  show own_Go p e below _ (T4.setTop (mkF m 36 #[.val (.ref o0), .val (.ref o1), .val (.ref o1)] [(.ref o0)]))
  obtain ⟨T5, X5, e5, st5⟩ := getF X4 hx hZ hown (host := "") (Or.inl (hw _ (own_m 33 rfl))) Via.refl e4 P3 (g := (mkF m 36 #[.val (.ref o0), .val (.ref o1), .val (.ref o1)] [(.ref o0)])) rfl rfl (hb hby own_d_prog_8_method_2_code_36)
  refine own_go st5 ?_
  show own_Go p e below _ (T5.setTop (mkF m 39 #[.val (.ref o0), .val (.ref o1), .val (.ref o1)] [(.ref o2)]))
  refine own_go (fun _ hr => XS.aloadN X5.here hx rfl (hb hby own_d_prog_8_method_2_code_39) rfl rfl hr) ?_
  show own_Go p e below _ (T5.setTop (mkF m 40 #[.val (.ref o0), .val (.ref o1), .val (.ref o1)] [(.ref o1), (.ref o2)]))
  obtain ⟨T6, X6, e6, st6⟩ := getF X5 hx hZ hown (host := "") (Or.inl (hw _ (own_m 33 rfl))) Via.refl e5 P4 (g := (mkF m 40 #[.val (.ref o0), .val (.ref o1), .val (.ref o1)] [(.ref o1), (.ref o2)])) rfl rfl (hb hby own_d_prog_8_method_2_code_40)
  refine own_go st6 ?_
  show own_Go p e below _ (T6.setTop (mkF m 43 #[.val (.ref o0), .val (.ref o1), .val (.ref o1)] [(.ref o3), (.ref o2)]))
  refine own_cv X6 hx hZ hown (notFace_of_selects (args := #[]) (mvT hZ (hw _ (own_m 58 rfl)))) (hw _ (own_m 65 rfl)) (hw _ (own_m 56 rfl)) (hw _ (own_m 58 rfl)) (hw _ (own_m 57 rfl)) (hw _ (own_m 6 rfl)) (hw _ (own_m 59 rfl)) (by decide) P13 (rm := { frames := 1, cells := 0, slots := 0, locals := 14 }) (rm_equals_25 l Z a0 hw [] o2 o3 y2 o4 o5 y3 y4 kc0 kc1 h0 n0 Z0 P5 P6 P7 P8 P9 P10 P11 P12 ne1p hb1 hb2 hb3 hb4) (by decide) (W := 0) (by decide) (by decide) (by decide) e6 (by rw [hml]; rfl) (argsL := [(.ref o3)]) (lenOf own_pd8 rfl) (rest := []) rfl rfl (Nat.le_of_eq rfl) (hb hby own_d_prog_8_method_2_code_43) ?_
  intro _ T7 L7 X7 hQ7
  obtain ⟨rfl, N7q, e7⟩ := hQ7
  have N7 := Fr.app N0 N7q
  show own_Go p e below _ (T7.setTop (mkF m 46 #[.val (.ref o0), .val (.ref o1), .val (.ref o1)] [(.int (1 : Int32))]))
  refine own_go (fun _ hr => XS.ifNo X7.here hx rfl (hb hby own_d_prog_8_method_2_code_46) rfl ((if0 _ _).trans (feq (by decide)).1) (XS.iconst X7.here hx rfl (hb hby own_d_prog_8_method_2_code_49) (XS.goto X7.here hx rfl (pc0 := 50) (pc' := 54) rfl (hb hby own_d_prog_8_method_2_code_50) (by decide) (by decide) hr))) ?_
  show own_Go p e below _ (T7.setTop (mkF m 54 #[.val (.ref o0), .val (.ref o1), .val (.ref o1)] [(.int (1 : Int32))]))
  exact own_retN X7 hx hlk Bd.returns (t := .boolean) (by simp) (hb hby own_d_prog_8_method_2_code_54) (by decide) (by decide) ⟨rfl, N7, e7⟩
def Q_equals_27 (Z : State) (h0 : Heap) (n0 : Nat) (v : Option Value) (h : Heap) (L : List Loc) : Prop := v = some (.int (1 : Int32)) ∧ Fr n0 L ∧ h = h0
set_option maxRecDepth 65536 in
set_option maxHeartbeats 40000000 in
theorem rm_equals_27 (l : Launch) (Z : State) (a0 : Array Value) (hw : ∀ d ∈ tables_1, d.before a0 Z = true) (ws : List Jvm.Cond) (o0 : Addr) (o1 : Addr) (y0 : Int32) (o2 : Addr) (o3 : Addr) (y1 : Int32) (o4 : Addr) (o5 : Addr) (y2 : Int32) (y3 : Int32) (kc0 : ClassId) (kc1 : ClassId) (h0 : Heap) (n0 : Nat) (Z0 : n0 ≤ h0.size) (P0 : Exa Z h0 o1 "com/example/appenddb/appenddb/TopicQueue") (P1 : Fld Z h0 o0 "com/example/appenddb/appenddb/TopicQueue" "queueId" "I" (.int y0)) (P2 : Fld Z h0 o1 "com/example/appenddb/appenddb/TopicQueue" "queueId" "I" (.int y0)) (P3 : Fld Z h0 o0 "com/example/appenddb/appenddb/TopicQueue" "topic" "Ljava/lang/String;" (.ref o2)) (P4 : Fld Z h0 o1 "com/example/appenddb/appenddb/TopicQueue" "topic" "Ljava/lang/String;" (.ref o3)) (P5 : Exa Z h0 o3 "java/lang/String") (P6 : Sta Z h0 "java/lang/String" "COMPACT_STRINGS" "Z" (.int y1)) (P7 : Fld Z h0 o2 "java/lang/String" "coder" "B" (.int (0 : Int32))) (P8 : Fld Z h0 o3 "java/lang/String" "coder" "B" (.int (0 : Int32))) (P9 : Fld Z h0 o2 "java/lang/String" "value" "[B" (.ref o4)) (P10 : Fld Z h0 o3 "java/lang/String" "value" "[B" (.ref o5)) (P11 : Arv Z h0 o4 kc0 .byte y2 (own_mkl y3 y2) (.int (0 : Int32))) (P12 : Arv Z h0 o5 kc1 .byte y2 (own_mkl y3 y2) (.int (0 : Int32))) (P13 : Exa Z h0 o2 "java/lang/String") (ne0p : o0 ≠ o1) (ne1p : o2 ≠ o3) (hb0 : ¬ (y1 = (0 : Int32))) (hb1 : ¬ ((2 : Int32) < y2)) (hb2 : ¬ (y2 < (0 : Int32))) (hb3 : ¬ ((own_leq y3 y2 y3 y2) = (0 : Int32))) :
    MetFree l (⟨"com/example/appenddb/appenddb/TopicQueue", "equals", "(Ljava/lang/Object;)Z"⟩ : MethodName) (head1 (Jvm.Cond.code (⟨"com/example/appenddb/appenddb/TopicQueue", "equals", "(Ljava/lang/Object;)Z"⟩ : MethodName) prog_8_method_2_code 3 (some .boolean) :: ws) ({ frames := 2, cells := 0, slots := 0, locals := 28 } : Room)) (fun aA U => aA = #[(.ref o0), (.ref o1)] ∧ Z.Warmed39 U.vm ∧ U.heap = h0) (fun _ _ _ _ _ => True) (fun _ U o U' => ∃ v L, o = .returned v ∧ Q_equals_27 Z h0 n0 v U'.heap L ∧ FrameEnd U o U' L ({ frames := 2, cells := 0, slots := 0, locals := 28 } : Room).cells ({ frames := 2, cells := 0, slots := 0, locals := 28 } : Room).slots) := by
  refine MetFree.of_bodySF (plainFor_of_name own_pn_com_example_appenddb_appenddb_TopicQueue) hisR ?_
  intro p e s m args below meth c s₁ Bd hml0 hP hK
  obtain ⟨rfl, hZ, hh⟩ := hP
  have hx := Bd.exec
  have hby := Bd.bytes
  have hlk : meth.locks = false := BodyLoose.notSynchronized Bd
  have hml : c.maxLocals = 3 := hml0
  have hown : s.vm.findClass "com/example/appenddb/appenddb/TopicQueue" = some m.cls := findClass_of_methodNamed Bd.named
  have hnm := (name_of_methodNamed Bd.named Bd.method).1
  have X0 : Stand p l e ({ frames := 2, cells := 0, slots := 0, locals := 28 } : Room) s m #[(.ref o0), (.ref o1)] below meth c s₁ [] 0 0 := Stand.of_body Bd
  have e0 : s₁.heap = h0 := by rw [← hh, Bd.state]; rfl
  have N0 := Fr.nil n0
  show own_Go p e below (own_K s (Q_equals_27 Z h0 n0) ({ frames := 2, cells := 0, slots := 0, locals := 28 } : Room).cells ({ frames := 2, cells := 0, slots := 0, locals := 28 } : Room).slots) (s₁.setTop (entryFrame m #[(.ref o0), (.ref o1)] 3))
  rw [(by first | (simp [entryFrame, mkF, argsToLocals, Value.category]; done) | rfl : entryFrame m #[(.ref o0), (.ref o1)] 3 = mkF m 0 #[.val (.ref o0), .val (.ref o1), .unset] [])]
  show own_Go p e below _ (s₁.setTop (mkF m 0 #[.val (.ref o0), .val (.ref o1), .unset] []))
  refine own_go (fun _ hr => XS.aloadN X0.here hx rfl (hb hby own_d_prog_8_method_2_code_0) rfl rfl (XS.aloadN X0.here hx rfl (hb hby own_d_prog_8_method_2_code_1) rfl rfl hr)) ?_
  show own_Go p e below _ (s₁.setTop (mkF m 2 #[.val (.ref o0), .val (.ref o1), .unset] [(.ref o1), (.ref o0)]))
  refine own_go (fun _ hr => Jvm.RoadKit.acmp X0 hx rfl rfl rfl (pc0 := 2) (pc' := 7) (same := false) rfl (hb hby own_d_prog_8_method_2_code_2) rfl (decide_eq_false fun q => ne0p (Value.ref.inj q)) (by decide) (by decide) hr) ?_
  show own_Go p e below _ (s₁.setTop (mkF m 7 #[.val (.ref o0), .val (.ref o1), .unset] []))
  refine own_go (fun _ hr => XS.aloadN X0.here hx rfl (hb hby own_d_prog_8_method_2_code_7) rfl rfl hr) ?_
  show own_Go p e below _ (s₁.setTop (mkF m 8 #[.val (.ref o0), .val (.ref o1), .unset] [(.ref o1)]))
  obtain ⟨T1, X1, e1, st1⟩ := instY X0 hx hZ hown (hw _ (own_m 42 rfl)) e0 (Ins.self P0) (g := (mkF m 8 #[.val (.ref o0), .val (.ref o1), .unset] [(.ref o1)])) rfl rfl (hb hby own_d_prog_8_method_2_code_8)
  refine own_go st1 ?_
  show own_Go p e below _ (T1.setTop (mkF m 11 #[.val (.ref o0), .val (.ref o1), .unset] [(.int (1 : Int32))]))
  refine own_go (fun _ hr => XS.ifNo X1.here hx rfl (hb hby own_d_prog_8_method_2_code_11) rfl ((if0 _ _).trans (feq (by decide)).1) (XS.aloadN X1.here hx rfl (hb hby own_d_prog_8_method_2_code_14) rfl rfl hr)) ?_
  show own_Go p e below _ (T1.setTop (mkF m 15 #[.val (.ref o0), .val (.ref o1), .unset] [(.ref o1)]))
  obtain ⟨T2, X2, e2, st2⟩ := castY X1 hx hZ hown (hw _ (own_m 42 rfl)) e1 (Ins.self P0) (g := (mkF m 15 #[.val (.ref o0), .val (.ref o1), .unset] [(.ref o1)])) rfl rfl (hb hby own_d_prog_8_method_2_code_15)
  refine own_go st2 ?_
  show own_Go p e below _ (T2.setTop (mkF m 18 #[.val (.ref o0), .val (.ref o1), .unset] [(.ref o1)]))
  refine own_go (fun _ hr => XS.astoreN X2.here hx rfl (hb hby own_d_prog_8_method_2_code_18) rfl rfl (l' := #[.val (.ref o0), .val (.ref o1), .val (.ref o1)]) rfl (XS.goto X2.here hx rfl (pc0 := 19) (pc' := 24) rfl (hb hby own_d_prog_8_method_2_code_19) (by decide) (by decide) (XS.aloadN X2.here hx rfl (hb hby own_d_prog_8_method_2_code_24) rfl rfl hr))) ?_
  show own_Go p e below _ (T2.setTop (mkF m 25 #[.val (.ref o0), .val (.ref o1), .val (.ref o1)] [(.ref o0)]))
  obtain ⟨T3, X3, e3, st3⟩ := getF X2 hx hZ hown (host := "") (Or.inl (hw _ (own_m 35 rfl))) Via.refl e2 P1 (g := (mkF m 25 #[.val (.ref o0), .val (.ref o1), .val (.ref o1)] [(.ref o0)])) rfl rfl (hb hby own_d_prog_8_method_2_code_25)
  refine own_go st3 ?_
  show own_Go p e below _ (T3.setTop (mkF m 28 #[.val (.ref o0), .val (.ref o1), .val (.ref o1)] [(.int y0)]))
  refine own_go (fun _ hr => XS.aloadN X3.here hx rfl (hb hby own_d_prog_8_method_2_code_28) rfl rfl hr) ?_
  show own_Go p e below _ (T3.setTop (mkF m 29 #[.val (.ref o0), .val (.ref o1), .val (.ref o1)] [(.ref o1), (.int y0)]))
  obtain ⟨T4, X4, e4, st4⟩ := getF X3 hx hZ hown (host := "") (Or.inl (hw _ (own_m 35 rfl))) Via.refl e3 P2 (g := (mkF m 29 #[.val (.ref o0), .val (.ref o1), .val (.ref o1)] [(.ref o1), (.int y0)])) rfl rfl (hb hby own_d_prog_8_method_2_code_29)
  refine own_go st4 ?_
  show own_Go p e below _ (T4.setTop (mkF m 32 #[.val (.ref o0), .val (.ref o1), .val (.ref o1)] [(.int y0), (.int y0)]))
  refine own_go (fun _ hr => XS.icmpNo X4.here hx rfl (hb hby own_d_prog_8_method_2_code_32) rfl (teq rfl).2 (XS.aloadN X4.here hx rfl (hb hby own_d_prog_8_method_2_code_35) rfl rfl hr)) ?_
  show own_Go p e below _ (T4.setTop (mkF m 36 #[.val (.ref o0), .val (.ref o1), .val (.ref o1)] [(.ref o0)]))
  obtain ⟨T5, X5, e5, st5⟩ := getF X4 hx hZ hown (host := "") (Or.inl (hw _ (own_m 33 rfl))) Via.refl e4 P3 (g := (mkF m 36 #[.val (.ref o0), .val (.ref o1), .val (.ref o1)] [(.ref o0)])) rfl rfl (hb hby own_d_prog_8_method_2_code_36)
  refine own_go st5 ?_
  show own_Go p e below _ (T5.setTop (mkF m 39 #[.val (.ref o0), .val (.ref o1), .val (.ref o1)] [(.ref o2)]))
  refine own_go (fun _ hr => XS.aloadN X5.here hx rfl (hb hby own_d_prog_8_method_2_code_39) rfl rfl hr) ?_
  show own_Go p e below _ (T5.setTop (mkF m 40 #[.val (.ref o0), .val (.ref o1), .val (.ref o1)] [(.ref o1), (.ref o2)]))
  obtain ⟨T6, X6, e6, st6⟩ := getF X5 hx hZ hown (host := "") (Or.inl (hw _ (own_m 33 rfl))) Via.refl e5 P4 (g := (mkF m 40 #[.val (.ref o0), .val (.ref o1), .val (.ref o1)] [(.ref o1), (.ref o2)])) rfl rfl (hb hby own_d_prog_8_method_2_code_40)
  refine own_go st6 ?_
  show own_Go p e below _ (T6.setTop (mkF m 43 #[.val (.ref o0), .val (.ref o1), .val (.ref o1)] [(.ref o3), (.ref o2)]))
  refine own_cv X6 hx hZ hown (notFace_of_selects (args := #[]) (mvT hZ (hw _ (own_m 58 rfl)))) (hw _ (own_m 65 rfl)) (hw _ (own_m 56 rfl)) (hw _ (own_m 58 rfl)) (hw _ (own_m 57 rfl)) (hw _ (own_m 6 rfl)) (hw _ (own_m 59 rfl)) (by decide) P13 (rm := { frames := 1, cells := 0, slots := 0, locals := 14 }) (rm_equals_25 l Z a0 hw [] o2 o3 y1 o4 o5 y2 y3 kc0 kc1 h0 n0 Z0 P5 P6 P7 P8 P9 P10 P11 P12 ne1p hb0 hb1 hb2 hb3) (by decide) (W := 0) (by decide) (by decide) (by decide) e6 (by rw [hml]; rfl) (argsL := [(.ref o3)]) (lenOf own_pd8 rfl) (rest := []) rfl rfl (Nat.le_of_eq rfl) (hb hby own_d_prog_8_method_2_code_43) ?_
  intro _ T7 L7 X7 hQ7
  obtain ⟨rfl, N7q, e7⟩ := hQ7
  have N7 := Fr.app N0 N7q
  show own_Go p e below _ (T7.setTop (mkF m 46 #[.val (.ref o0), .val (.ref o1), .val (.ref o1)] [(.int (1 : Int32))]))
  refine own_go (fun _ hr => XS.ifNo X7.here hx rfl (hb hby own_d_prog_8_method_2_code_46) rfl ((if0 _ _).trans (feq (by decide)).1) (XS.iconst X7.here hx rfl (hb hby own_d_prog_8_method_2_code_49) (XS.goto X7.here hx rfl (pc0 := 50) (pc' := 54) rfl (hb hby own_d_prog_8_method_2_code_50) (by decide) (by decide) hr))) ?_
  show own_Go p e below _ (T7.setTop (mkF m 54 #[.val (.ref o0), .val (.ref o1), .val (.ref o1)] [(.int (1 : Int32))]))
  exact own_retN X7 hx hlk Bd.returns (t := .boolean) (by simp) (hb hby own_d_prog_8_method_2_code_54) (by decide) (by decide) ⟨rfl, N7, e7⟩
def Q_law (Z : State) (h0 : Heap) (n0 : Nat) (v : Option Value) (h : Heap) (L : List Loc) : Prop := v = some (.int 1) ∧ Fr n0 L
set_option maxRecDepth 65536 in
set_option maxHeartbeats 40000000 in
theorem rm_law (l : Launch) (Z : State) (a0 : Array Value) (hw : ∀ d ∈ tables_1, d.before a0 Z = true) (ws : List Jvm.Cond) (x0 : Int32) (x1 : Int32) (x2 : Int32) (x3 : Int32) (x4 : Int32) (i_COMPACT_STRINGS : Int32) (v_SIOOBE_FORMATTER : Value) (h0 : Heap) (n0 : Nat) (Z0 : n0 ≤ h0.size) (S_COMPACT_STRINGS : Sta Z h0 "java/lang/String" "COMPACT_STRINGS" "Z" (.int i_COMPACT_STRINGS)) (S_SIOOBE_FORMATTER : Sta Z h0 "jdk/internal/util/Preconditions" "SIOOBE_FORMATTER" "Ljava/util/function/BiFunction;" v_SIOOBE_FORMATTER) (hs_COMPACT_STRINGS : ¬ (i_COMPACT_STRINGS = (0 : Int32))) (hv_SIOOBE_FORMATTER : v_SIOOBE_FORMATTER.isRef = true) :
    MetFree l x (head1 (Jvm.Cond.code x code maxLocals ret :: ws) room_1) (fun aA U => aA = #[(.int x0), (.int x1), (.int x2), (.int x3), (.int x4)] ∧ Z.Warmed39 U.vm ∧ U.heap = h0 ∧ CHv Z own_EL U.vm h0) (fun _ _ _ _ _ => True) (fun _ U o U' => ∃ v L, o = .returned v ∧ Q_law Z h0 n0 v U'.heap L ∧ CHr Z own_EL U.vm U.heap U'.vm U'.heap ∧ ReturnedEndW U o U' L room_1.cells room_1.slots) := by
  refine MetFree.of_bodySF (plainFor_of_name own_pn_com_example_appenddb_appenddb_TopicQueueEqualsPinLaw) hisR ?_
  intro p e s m args below meth c s₁ Bd hml0 hP hK
  obtain ⟨rfl, hZ, hh, hC0⟩ := hP
  have hx := Bd.exec
  have hby := Bd.bytes
  have hlk : meth.locks = false := BodyLoose.notSynchronized Bd
  have hml : c.maxLocals = 15 := hml0
  have hown : s.vm.findClass "com/example/appenddb/appenddb/TopicQueueEqualsPinLaw" = some m.cls := findClass_of_methodNamed Bd.named
  have hnm := (name_of_methodNamed Bd.named Bd.method).1
  have X0 : Stand p l e room_1 (s.setVm s.vm) m #[(.int x0), (.int x1), (.int x2), (.int x3), (.int x4)] below meth c s₁ [] 0 0 := Stand.of_body Bd
  have e0 : s₁.heap = h0 := by rw [← hh, Bd.state]; rfl
  have N0 := Fr.nil n0
  have hS : s.Since s.vm 0 := (State.WarmedH.refl s).since 0
  have hk := Nat.zero_le h0.size
  have hEL : EW Z a0 own_EL := own_ew hw
  have A0 : CHr Z own_EL s.vm h0 s.vm h0 := CHr.refl hC0
  show own_Go p e below (own_KW Z own_EL s (Q_law Z h0 n0) room_1.cells room_1.slots) (s₁.setTop (entryFrame m #[(.int x0), (.int x1), (.int x2), (.int x3), (.int x4)] maxLocals))
  rw [(by first | (simp [entryFrame, mkF, argsToLocals, Value.category, maxLocals]; done) | rfl : entryFrame m #[(.int x0), (.int x1), (.int x2), (.int x3), (.int x4)] maxLocals = mkF m 0 #[.val (.int x0), .val (.int x1), .val (.int x2), .val (.int x3), .val (.int x4), .unset, .unset, .unset, .unset, .unset, .unset, .unset, .unset, .unset, .unset] [])]
  show own_Go p e below _ (s₁.setTop (mkF m 0 #[.val (.int x0), .val (.int x1), .val (.int x2), .val (.int x3), .val (.int x4), .unset, .unset, .unset, .unset, .unset, .unset, .unset, .unset, .unset, .unset] []))
  refine own_go (fun _ hr => XS.iload X0.here hx rfl (hb hby at_0) rfl (XS.iconst X0.here hx rfl (hb hby at_2) (XS.iand X0.here hx rfl (hb hby at_3) rfl (XS.iconst X0.here hx rfl (hb hby at_4) hr)))) ?_
  show own_Go p e below _ (s₁.setTop (mkF m 5 #[.val (.int x0), .val (.int x1), .val (.int x2), .val (.int x3), .val (.int x4), .unset, .unset, .unset, .unset, .unset, .unset, .unset, .unset, .unset, .unset] [(.int (3 : Int32)), (.int (x4 &&& (3 : Int32)))]))
  have nz1 : (3 : Int32) ≠ (0 : Int32) := by decide
  refine own_go (fun _ hr => iremM X0 hx rfl (hb hby at_5) rfl nz1 hr) ?_
  show own_Go p e below _ (s₁.setTop (mkF m 6 #[.val (.int x0), .val (.int x1), .val (.int x2), .val (.int x3), .val (.int x4), .unset, .unset, .unset, .unset, .unset, .unset, .unset, .unset, .unset, .unset] [(.int ((x4 &&& (3 : Int32)) % (3 : Int32)))]))
  refine own_go (fun _ hr => XS.istore X0.here hx rfl (hb hby at_6) rfl (l' := #[.val (.int x0), .val (.int x1), .val (.int x2), .val (.int x3), .val (.int x4), .val (.int ((x4 &&& (3 : Int32)) % (3 : Int32))), .unset, .unset, .unset, .unset, .unset, .unset, .unset, .unset, .unset]) rfl (XS.iload X0.here hx rfl (hb hby at_8) rfl (XS.iconst X0.here hx rfl (hb hby at_10) (XS.iushr X0.here hx rfl (hb hby at_11) rfl (XS.iconst X0.here hx rfl (hb hby at_12) (XS.iand X0.here hx rfl (hb hby at_13) rfl hr)))))) ?_
  show own_Go p e below _ (s₁.setTop (mkF m 14 #[.val (.int x0), .val (.int x1), .val (.int x2), .val (.int x3), .val (.int x4), .val (.int ((x4 &&& (3 : Int32)) % (3 : Int32))), .unset, .unset, .unset, .unset, .unset, .unset, .unset, .unset, .unset] [(.int (((x4.toUInt32 >>> ((2 : Int32) &&& 31).toUInt32).toInt32) &&& (1 : Int32)))]))
  rcases Classical.em ((((x4.toUInt32 >>> ((2 : Int32) &&& 31).toUInt32).toInt32) &&& (1 : Int32)) = (0 : Int32)) with c2 | c2
  · skip
    refine own_go (fun _ hr => XS.ifYes X0.here hx rfl (pc0 := 14) (pc' := 21) rfl (hb hby at_14) rfl ((if0 _ _).trans (teq c2).1) (by decide) (by decide) hr) ?_
    show own_Go p e below _ (s₁.setTop (mkF m 21 #[.val (.int x0), .val (.int x1), .val (.int x2), .val (.int x3), .val (.int x4), .val (.int ((x4 &&& (3 : Int32)) % (3 : Int32))), .unset, .unset, .unset, .unset, .unset, .unset, .unset, .unset, .unset] []))
    refine own_go (fun _ hr => XS.iconst X0.here hx rfl (hb hby at_21) (XS.istore X0.here hx rfl (hb hby at_22) rfl (l' := #[.val (.int x0), .val (.int x1), .val (.int x2), .val (.int x3), .val (.int x4), .val (.int ((x4 &&& (3 : Int32)) % (3 : Int32))), .val (.int (0 : Int32)), .unset, .unset, .unset, .unset, .unset, .unset, .unset, .unset]) rfl (XS.iload X0.here hx rfl (hb hby at_24) rfl (XS.iconst X0.here hx rfl (hb hby at_26) (XS.iushr X0.here hx rfl (hb hby at_27) rfl (XS.iconst X0.here hx rfl (hb hby at_28) (XS.iand X0.here hx rfl (hb hby at_29) rfl (XS.iconst X0.here hx rfl (hb hby at_30) hr)))))))) ?_
    show own_Go p e below _ (s₁.setTop (mkF m 31 #[.val (.int x0), .val (.int x1), .val (.int x2), .val (.int x3), .val (.int x4), .val (.int ((x4 &&& (3 : Int32)) % (3 : Int32))), .val (.int (0 : Int32)), .unset, .unset, .unset, .unset, .unset, .unset, .unset, .unset] [(.int (3 : Int32)), (.int (((x4.toUInt32 >>> ((3 : Int32) &&& 31).toUInt32).toInt32) &&& (3 : Int32)))]))
    have nz3 : (3 : Int32) ≠ (0 : Int32) := by decide
    refine own_go (fun _ hr => iremM X0 hx rfl (hb hby at_31) rfl nz3 hr) ?_
    show own_Go p e below _ (s₁.setTop (mkF m 32 #[.val (.int x0), .val (.int x1), .val (.int x2), .val (.int x3), .val (.int x4), .val (.int ((x4 &&& (3 : Int32)) % (3 : Int32))), .val (.int (0 : Int32)), .unset, .unset, .unset, .unset, .unset, .unset, .unset, .unset] [(.int ((((x4.toUInt32 >>> ((3 : Int32) &&& 31).toUInt32).toInt32) &&& (3 : Int32)) % (3 : Int32)))]))
    refine own_go (fun _ hr => XS.istore X0.here hx rfl (hb hby at_32) rfl (l' := #[.val (.int x0), .val (.int x1), .val (.int x2), .val (.int x3), .val (.int x4), .val (.int ((x4 &&& (3 : Int32)) % (3 : Int32))), .val (.int (0 : Int32)), .val (.int ((((x4.toUInt32 >>> ((3 : Int32) &&& 31).toUInt32).toInt32) &&& (3 : Int32)) % (3 : Int32))), .unset, .unset, .unset, .unset, .unset, .unset, .unset]) rfl (XS.iloadN X0.here hx rfl (hb hby at_34) rfl (XS.iload X0.here hx rfl (hb hby at_35) rfl hr))) ?_
    show own_Go p e below _ (s₁.setTop (mkF m 37 #[.val (.int x0), .val (.int x1), .val (.int x2), .val (.int x3), .val (.int x4), .val (.int ((x4 &&& (3 : Int32)) % (3 : Int32))), .val (.int (0 : Int32)), .val (.int ((((x4.toUInt32 >>> ((3 : Int32) &&& 31).toUInt32).toInt32) &&& (3 : Int32)) % (3 : Int32))), .unset, .unset, .unset, .unset, .unset, .unset, .unset] [(.int ((x4 &&& (3 : Int32)) % (3 : Int32))), (.int x0)]))
    have c4 : ¬ (((x4 &&& (3 : Int32)) % (3 : Int32)) < (0 : Int32)) := by
      have q0 := rng32 x4
      have q1 := c_iushr x4 (2 : Int32) 2 (by decide) (by decide)
      have q2 := c_mask ((x4.toUInt32 >>> ((2 : Int32) &&& 31).toUInt32).toInt32) (1 : Int32) 1 (by decide) (by decide)
      have q3 := c_mask x4 (3 : Int32) 2 (by decide) (by decide)
      have q4 := c_irem (x4 &&& (3 : Int32)) (3 : Int32) 3 (by decide)
      have p0 := c2
      simp only [true_implies, Int32.lt_iff_toInt_lt, ← Int32.toInt_inj, Int32.reduceToInt, Int64.lt_iff_toInt_lt, ← Int64.toInt_inj, Int64.reduceToInt] at q0 q1 q2 q3 q4 p0 ⊢
      omega
    have c5 : ¬ ((2 : Int32) < ((x4 &&& (3 : Int32)) % (3 : Int32))) := by
      have q0 := rng32 x4
      have q1 := c_iushr x4 (2 : Int32) 2 (by decide) (by decide)
      have q2 := c_mask ((x4.toUInt32 >>> ((2 : Int32) &&& 31).toUInt32).toInt32) (1 : Int32) 1 (by decide) (by decide)
      have q3 := c_mask x4 (3 : Int32) 2 (by decide) (by decide)
      have q4 := c_irem (x4 &&& (3 : Int32)) (3 : Int32) 3 (by decide)
      have p0 := c2
      have p1 := c4
      simp only [true_implies, Int32.lt_iff_toInt_lt, ← Int32.toInt_inj, Int32.reduceToInt, Int64.lt_iff_toInt_lt, ← Int64.toInt_inj, Int64.reduceToInt] at q0 q1 q2 q3 q4 p0 p1 ⊢
      omega
    have hZo7 := hZ
    refine own_csW X0 hx hZ hown (hw _ (own_m 0 rfl)) (hw _ (own_m 1 rfl)) (hw _ (own_m 2 rfl)) (hw _ (own_m 3 rfl)) (by decide) (rm := { frames := 4, cells := 6, slots := 12, locals := 66 }) (rm_mk l Z a0 hw [] x0 ((x4 &&& (3 : Int32)) % (3 : Int32)) i_COMPACT_STRINGS h0 n0 Z0 S_COMPACT_STRINGS hs_COMPACT_STRINGS c4 c5) (by decide) (W := 0) (by decide) (by decide) (by decide) e0 hEL A0.1 hS hk (by rw [hml]; rfl) (argsL := [(.int x0), (.int ((x4 &&& (3 : Int32)) % (3 : Int32)))]) (lenOf own_pd5 rfl) (rest := []) rfl rfl (Nat.le_of_eq rfl) (hb hby at_37) ?_
    intro _ T6 L6 X6 hQ6 Ac6 hS hZ hown
    obtain ⟨b6_0, b6_1, kb6_0, rfl, N6q, K6, ge6_0, sz6_0, f6_0, f6_1, f6_2, f6_3⟩ := hQ6
    have N6 := Fr.app N0 N6q
    show own_Go p e below _ (T6.setTop (mkF m 40 #[.val (.int x0), .val (.int x1), .val (.int x2), .val (.int x3), .val (.int x4), .val (.int ((x4 &&& (3 : Int32)) % (3 : Int32))), .val (.int (0 : Int32)), .val (.int ((((x4.toUInt32 >>> ((3 : Int32) &&& 31).toUInt32).toInt32) &&& (3 : Int32)) % (3 : Int32))), .unset, .unset, .unset, .unset, .unset, .unset, .unset] [(.ref b6_0)]))
    refine own_go (fun _ hr => XS.astore X6.here hx rfl (hb hby at_40) rfl rfl (l' := #[.val (.int x0), .val (.int x1), .val (.int x2), .val (.int x3), .val (.int x4), .val (.int ((x4 &&& (3 : Int32)) % (3 : Int32))), .val (.int (0 : Int32)), .val (.int ((((x4.toUInt32 >>> ((3 : Int32) &&& 31).toUInt32).toInt32) &&& (3 : Int32)) % (3 : Int32))), .val (.ref b6_0), .unset, .unset, .unset, .unset, .unset, .unset]) rfl (XS.iload X6.here hx rfl (hb hby at_42) rfl (XS.ifYes X6.here hx rfl (pc0 := 44) (pc' := 56) rfl (hb hby at_44) rfl ((if0 _ _).trans (teq (by decide)).1) (by decide) (by decide) (XS.iloadN X6.here hx rfl (hb hby at_56) rfl (XS.iload X6.here hx rfl (hb hby at_57) rfl hr))))) ?_
    show own_Go p e below _ (T6.setTop (mkF m 59 #[.val (.int x0), .val (.int x1), .val (.int x2), .val (.int x3), .val (.int x4), .val (.int ((x4 &&& (3 : Int32)) % (3 : Int32))), .val (.int (0 : Int32)), .val (.int ((((x4.toUInt32 >>> ((3 : Int32) &&& 31).toUInt32).toInt32) &&& (3 : Int32)) % (3 : Int32))), .val (.ref b6_0), .unset, .unset, .unset, .unset, .unset, .unset] [(.int ((((x4.toUInt32 >>> ((3 : Int32) &&& 31).toUInt32).toInt32) &&& (3 : Int32)) % (3 : Int32))), (.int x1)]))
    have c8 : ¬ (((((x4.toUInt32 >>> ((3 : Int32) &&& 31).toUInt32).toInt32) &&& (3 : Int32)) % (3 : Int32)) < (0 : Int32)) := by
      have q0 := rng32 x4
      have q1 := c_iushr x4 (2 : Int32) 2 (by decide) (by decide)
      have q2 := c_mask ((x4.toUInt32 >>> ((2 : Int32) &&& 31).toUInt32).toInt32) (1 : Int32) 1 (by decide) (by decide)
      have q3 := c_mask x4 (3 : Int32) 2 (by decide) (by decide)
      have q4 := c_irem (x4 &&& (3 : Int32)) (3 : Int32) 3 (by decide)
      have q5 := c_iushr x4 (3 : Int32) 3 (by decide) (by decide)
      have q6 := c_mask ((x4.toUInt32 >>> ((3 : Int32) &&& 31).toUInt32).toInt32) (3 : Int32) 2 (by decide) (by decide)
      have q7 := c_irem (((x4.toUInt32 >>> ((3 : Int32) &&& 31).toUInt32).toInt32) &&& (3 : Int32)) (3 : Int32) 3 (by decide)
      have p0 := c2
      have p1 := c4
      have p2 := c5
      simp only [true_implies, Int32.lt_iff_toInt_lt, ← Int32.toInt_inj, Int32.reduceToInt, Int64.lt_iff_toInt_lt, ← Int64.toInt_inj, Int64.reduceToInt] at q0 q1 q2 q3 q4 q5 q6 q7 p0 p1 p2 ⊢
      omega
    have c9 : ¬ ((2 : Int32) < ((((x4.toUInt32 >>> ((3 : Int32) &&& 31).toUInt32).toInt32) &&& (3 : Int32)) % (3 : Int32))) := by
      have q0 := rng32 x4
      have q1 := c_iushr x4 (2 : Int32) 2 (by decide) (by decide)
      have q2 := c_mask ((x4.toUInt32 >>> ((2 : Int32) &&& 31).toUInt32).toInt32) (1 : Int32) 1 (by decide) (by decide)
      have q3 := c_mask x4 (3 : Int32) 2 (by decide) (by decide)
      have q4 := c_irem (x4 &&& (3 : Int32)) (3 : Int32) 3 (by decide)
      have q5 := c_iushr x4 (3 : Int32) 3 (by decide) (by decide)
      have q6 := c_mask ((x4.toUInt32 >>> ((3 : Int32) &&& 31).toUInt32).toInt32) (3 : Int32) 2 (by decide) (by decide)
      have q7 := c_irem (((x4.toUInt32 >>> ((3 : Int32) &&& 31).toUInt32).toInt32) &&& (3 : Int32)) (3 : Int32) 3 (by decide)
      have p0 := c2
      have p1 := c4
      have p2 := c5
      have p3 := c8
      simp only [true_implies, Int32.lt_iff_toInt_lt, ← Int32.toInt_inj, Int32.reduceToInt, Int64.lt_iff_toInt_lt, ← Int64.toInt_inj, Int64.reduceToInt] at q0 q1 q2 q3 q4 q5 q6 q7 p0 p1 p2 p3 ⊢
      omega
    have f11 := (own_sta_keep S_COMPACT_STRINGS K6 all0)
    have Z12 := (Nat.le_trans Z0 K6.1)
    have hZo13 := hZ
    have A14 := A0.trans Ac6
    refine own_csW X6 hx hZ hown (hw _ (own_m 0 rfl)) (hw _ (own_m 1 rfl)) (hw _ (own_m 2 rfl)) (hw _ (own_m 3 rfl)) (by decide) (rm := { frames := 4, cells := 6, slots := 12, locals := 66 }) (rm_mk l Z a0 hw [] x1 ((((x4.toUInt32 >>> ((3 : Int32) &&& 31).toUInt32).toInt32) &&& (3 : Int32)) % (3 : Int32)) i_COMPACT_STRINGS T6.heap n0 Z12 f11 hs_COMPACT_STRINGS c8 c9) (by decide) (W := 0) (by decide) (by decide) (by decide) rfl hEL A14.1 hS (Nat.le_refl _) (by rw [hml]; rfl) (argsL := [(.int x1), (.int ((((x4.toUInt32 >>> ((3 : Int32) &&& 31).toUInt32).toInt32) &&& (3 : Int32)) % (3 : Int32)))]) (lenOf own_pd5 rfl) (rest := []) rfl rfl (Nat.le_of_eq rfl) (hb hby at_59) ?_
    intro _ T10 L10 X10 hQ10 Ac10 hS hZ hown
    obtain ⟨b10_0, b10_1, kb10_0, rfl, N10q, K10, ge10_0, sz10_0, f10_0, f10_1, f10_2, f10_3⟩ := hQ10
    have N10 := Fr.app N6 N10q
    show own_Go p e below _ (T10.setTop (mkF m 62 #[.val (.int x0), .val (.int x1), .val (.int x2), .val (.int x3), .val (.int x4), .val (.int ((x4 &&& (3 : Int32)) % (3 : Int32))), .val (.int (0 : Int32)), .val (.int ((((x4.toUInt32 >>> ((3 : Int32) &&& 31).toUInt32).toInt32) &&& (3 : Int32)) % (3 : Int32))), .val (.ref b6_0), .unset, .unset, .unset, .unset, .unset, .unset] [(.ref b10_0)]))
    refine own_go (fun _ hr => XS.astore X10.here hx rfl (hb hby at_62) rfl rfl (l' := #[.val (.int x0), .val (.int x1), .val (.int x2), .val (.int x3), .val (.int x4), .val (.int ((x4 &&& (3 : Int32)) % (3 : Int32))), .val (.int (0 : Int32)), .val (.int ((((x4.toUInt32 >>> ((3 : Int32) &&& 31).toUInt32).toInt32) &&& (3 : Int32)) % (3 : Int32))), .val (.ref b6_0), .val (.ref b10_0), .unset, .unset, .unset, .unset, .unset]) rfl (XS.iload X10.here hx rfl (hb hby at_64) rfl (XS.iconst X10.here hx rfl (hb hby at_66) (XS.iushr X10.here hx rfl (hb hby at_67) rfl (XS.iconst X10.here hx rfl (hb hby at_68) (XS.iand X10.here hx rfl (hb hby at_69) rfl hr)))))) ?_
    show own_Go p e below _ (T10.setTop (mkF m 70 #[.val (.int x0), .val (.int x1), .val (.int x2), .val (.int x3), .val (.int x4), .val (.int ((x4 &&& (3 : Int32)) % (3 : Int32))), .val (.int (0 : Int32)), .val (.int ((((x4.toUInt32 >>> ((3 : Int32) &&& 31).toUInt32).toInt32) &&& (3 : Int32)) % (3 : Int32))), .val (.ref b6_0), .val (.ref b10_0), .unset, .unset, .unset, .unset, .unset] [(.int (((x4.toUInt32 >>> ((5 : Int32) &&& 31).toUInt32).toInt32) &&& (1 : Int32)))]))
    rcases Classical.em ((((x4.toUInt32 >>> ((5 : Int32) &&& 31).toUInt32).toInt32) &&& (1 : Int32)) = (0 : Int32)) with c15 | c15
    · skip
      refine own_go (fun _ hr => XS.ifYes X10.here hx rfl (pc0 := 70) (pc' := 77) rfl (hb hby at_70) rfl ((if0 _ _).trans (teq c15).1) (by decide) (by decide) hr) ?_
      show own_Go p e below _ (T10.setTop (mkF m 77 #[.val (.int x0), .val (.int x1), .val (.int x2), .val (.int x3), .val (.int x4), .val (.int ((x4 &&& (3 : Int32)) % (3 : Int32))), .val (.int (0 : Int32)), .val (.int ((((x4.toUInt32 >>> ((3 : Int32) &&& 31).toUInt32).toInt32) &&& (3 : Int32)) % (3 : Int32))), .val (.ref b6_0), .val (.ref b10_0), .unset, .unset, .unset, .unset, .unset] []))
      refine own_go (fun _ hr => XS.iloadN X10.here hx rfl (hb hby at_77) rfl (XS.istore X10.here hx rfl (hb hby at_78) rfl (l' := #[.val (.int x0), .val (.int x1), .val (.int x2), .val (.int x3), .val (.int x4), .val (.int ((x4 &&& (3 : Int32)) % (3 : Int32))), .val (.int (0 : Int32)), .val (.int ((((x4.toUInt32 >>> ((3 : Int32) &&& 31).toUInt32).toInt32) &&& (3 : Int32)) % (3 : Int32))), .val (.ref b6_0), .val (.ref b10_0), .val (.int x3), .unset, .unset, .unset, .unset]) rfl hr)) ?_
      show own_Go p e below _ (T10.setTop (mkF m 80 #[.val (.int x0), .val (.int x1), .val (.int x2), .val (.int x3), .val (.int x4), .val (.int ((x4 &&& (3 : Int32)) % (3 : Int32))), .val (.int (0 : Int32)), .val (.int ((((x4.toUInt32 >>> ((3 : Int32) &&& 31).toUInt32).toInt32) &&& (3 : Int32)) % (3 : Int32))), .val (.ref b6_0), .val (.ref b10_0), .val (.int x3), .unset, .unset, .unset, .unset] []))
      obtain ⟨T16, h16, X16, e16, E16, A16, D16, -, st16⟩ := newO X10 hx hZ hown (hw _ (own_m 26 rfl)) (hw _ (own_m 27 rfl)) (hw _ (own_m 28 rfl)) rfl (g := (mkF m 80 #[.val (.int x0), .val (.int x1), .val (.int x2), .val (.int x3), .val (.int x4), .val (.int ((x4 &&& (3 : Int32)) % (3 : Int32))), .val (.int (0 : Int32)), .val (.int ((((x4.toUInt32 >>> ((3 : Int32) &&& 31).toUInt32).toInt32) &&& (3 : Int32)) % (3 : Int32))), .val (.ref b6_0), .val (.ref b10_0), .val (.int x3), .unset, .unset, .unset, .unset] [])) rfl (hb hby at_80) (by decide) (by decide)
      obtain ⟨b16, g16⟩ : ∃ z, z = T10.heap.size := ⟨_, rfl⟩
      rw [← g16] at A16 D16 st16
      have Z17 := (Nat.le_trans Z12 K10.1)
      have ge18 : n0 ≤ b16 := Nat.le_trans Z17 (Nat.le_of_eq g16.symm)
      refine own_go st16 ?_
      have f19 : Fld Z h16 b16 "com/example/appenddb/appenddb/TopicQueue" "topic" "Ljava/lang/String;" .null := D16 (Or.inr (hw _ (own_m 34 rfl))) (ty := (.object "java/lang/String")) (by decide)
      have f20 : Fld Z h16 b16 "com/example/appenddb/appenddb/TopicQueue" "queueId" "I" (.int (0 : Int32)) := D16 (Or.inr (hw _ (own_m 36 rfl))) (ty := .int) (by decide)
      show own_Go p e below _ (T16.setTop (mkF m 83 #[.val (.int x0), .val (.int x1), .val (.int x2), .val (.int x3), .val (.int x4), .val (.int ((x4 &&& (3 : Int32)) % (3 : Int32))), .val (.int (0 : Int32)), .val (.int ((((x4.toUInt32 >>> ((3 : Int32) &&& 31).toUInt32).toInt32) &&& (3 : Int32)) % (3 : Int32))), .val (.ref b6_0), .val (.ref b10_0), .val (.int x3), .unset, .unset, .unset, .unset] [(.ref b16)]))
      refine own_go (fun _ hr => XS.dup X16.here hx rfl (hb hby at_83) rfl rfl (XS.aload X16.here hx rfl (hb hby at_84) rfl rfl (XS.iloadN X16.here hx rfl (hb hby at_86) rfl hr))) ?_
      show own_Go p e below _ (T16.setTop (mkF m 87 #[.val (.int x0), .val (.int x1), .val (.int x2), .val (.int x3), .val (.int x4), .val (.int ((x4 &&& (3 : Int32)) % (3 : Int32))), .val (.int (0 : Int32)), .val (.int ((((x4.toUInt32 >>> ((3 : Int32) &&& 31).toUInt32).toInt32) &&& (3 : Int32)) % (3 : Int32))), .val (.ref b6_0), .val (.ref b10_0), .val (.int x3), .unset, .unset, .unset, .unset] [(.int x2), (.ref b6_0), (.ref b16), (.ref b16)]))
      have Z22 := (Nat.le_trans Z17 E16.1)
      refine own_cp X16 hx hZ hown rfl (hw _ (own_m 29 rfl)) (hw _ (own_m 30 rfl)) (hw _ (own_m 28 rfl)) (hw _ (own_m 31 rfl)) (by decide) (rm := { frames := 1, cells := 0, slots := 0, locals := 12 }) (rm_init_14 l Z a0 hw [] b16 b6_0 x2 h16 n0 Z22 A16 f19 f20 ge18) (by decide) (W := 1) (by decide) (by decide) (by decide) e16 (by rw [hml]; rfl) (argsL := [(.ref b6_0), (.int x2)]) (lenOf own_pd6 rfl) (rest := [(.ref b16)]) rfl rfl (Nat.le_of_eq rfl) (hb hby at_87) ?_
      intro _ T21 L21 X21 hQ21
      obtain ⟨rfl, N21q, K21, f21_0, f21_1⟩ := hQ21
      have N21 := Fr.app N10 N21q
      show own_Go p e below _ (T21.setTop (mkF m 90 #[.val (.int x0), .val (.int x1), .val (.int x2), .val (.int x3), .val (.int x4), .val (.int ((x4 &&& (3 : Int32)) % (3 : Int32))), .val (.int (0 : Int32)), .val (.int ((((x4.toUInt32 >>> ((3 : Int32) &&& 31).toUInt32).toInt32) &&& (3 : Int32)) % (3 : Int32))), .val (.ref b6_0), .val (.ref b10_0), .val (.int x3), .unset, .unset, .unset, .unset] [(.ref b16)]))
      refine own_go (fun _ hr => XS.astore X21.here hx rfl (hb hby at_90) rfl rfl (l' := #[.val (.int x0), .val (.int x1), .val (.int x2), .val (.int x3), .val (.int x4), .val (.int ((x4 &&& (3 : Int32)) % (3 : Int32))), .val (.int (0 : Int32)), .val (.int ((((x4.toUInt32 >>> ((3 : Int32) &&& 31).toUInt32).toInt32) &&& (3 : Int32)) % (3 : Int32))), .val (.ref b6_0), .val (.ref b10_0), .val (.int x3), .val (.ref b16), .unset, .unset, .unset]) rfl hr) ?_
      show own_Go p e below _ (T21.setTop (mkF m 92 #[.val (.int x0), .val (.int x1), .val (.int x2), .val (.int x3), .val (.int x4), .val (.int ((x4 &&& (3 : Int32)) % (3 : Int32))), .val (.int (0 : Int32)), .val (.int ((((x4.toUInt32 >>> ((3 : Int32) &&& 31).toUInt32).toInt32) &&& (3 : Int32)) % (3 : Int32))), .val (.ref b6_0), .val (.ref b10_0), .val (.int x3), .val (.ref b16), .unset, .unset, .unset] []))
      obtain ⟨T23, h23, X23, e23, E23, A23, D23, -, st23⟩ := newO X21 hx hZ hown (hw _ (own_m 26 rfl)) (hw _ (own_m 27 rfl)) (hw _ (own_m 28 rfl)) rfl (g := (mkF m 92 #[.val (.int x0), .val (.int x1), .val (.int x2), .val (.int x3), .val (.int x4), .val (.int ((x4 &&& (3 : Int32)) % (3 : Int32))), .val (.int (0 : Int32)), .val (.int ((((x4.toUInt32 >>> ((3 : Int32) &&& 31).toUInt32).toInt32) &&& (3 : Int32)) % (3 : Int32))), .val (.ref b6_0), .val (.ref b10_0), .val (.int x3), .val (.ref b16), .unset, .unset, .unset] [])) rfl (hb hby at_92) (by decide) (by decide)
      obtain ⟨b23, g23⟩ : ∃ z, z = T21.heap.size := ⟨_, rfl⟩
      rw [← g23] at A23 D23 st23
      have Z24 := (Nat.le_trans Z22 K21.1)
      have ge25 : n0 ≤ b23 := Nat.le_trans Z24 (Nat.le_of_eq g23.symm)
      refine own_go st23 ?_
      have f26 : Fld Z h23 b23 "com/example/appenddb/appenddb/TopicQueue" "topic" "Ljava/lang/String;" .null := D23 (Or.inr (hw _ (own_m 34 rfl))) (ty := (.object "java/lang/String")) (by decide)
      have f27 : Fld Z h23 b23 "com/example/appenddb/appenddb/TopicQueue" "queueId" "I" (.int (0 : Int32)) := D23 (Or.inr (hw _ (own_m 36 rfl))) (ty := .int) (by decide)
      show own_Go p e below _ (T23.setTop (mkF m 95 #[.val (.int x0), .val (.int x1), .val (.int x2), .val (.int x3), .val (.int x4), .val (.int ((x4 &&& (3 : Int32)) % (3 : Int32))), .val (.int (0 : Int32)), .val (.int ((((x4.toUInt32 >>> ((3 : Int32) &&& 31).toUInt32).toInt32) &&& (3 : Int32)) % (3 : Int32))), .val (.ref b6_0), .val (.ref b10_0), .val (.int x3), .val (.ref b16), .unset, .unset, .unset] [(.ref b23)]))
      refine own_go (fun _ hr => XS.dup X23.here hx rfl (hb hby at_95) rfl rfl (XS.aload X23.here hx rfl (hb hby at_96) rfl rfl (XS.iload X23.here hx rfl (hb hby at_98) rfl hr))) ?_
      show own_Go p e below _ (T23.setTop (mkF m 100 #[.val (.int x0), .val (.int x1), .val (.int x2), .val (.int x3), .val (.int x4), .val (.int ((x4 &&& (3 : Int32)) % (3 : Int32))), .val (.int (0 : Int32)), .val (.int ((((x4.toUInt32 >>> ((3 : Int32) &&& 31).toUInt32).toInt32) &&& (3 : Int32)) % (3 : Int32))), .val (.ref b6_0), .val (.ref b10_0), .val (.int x3), .val (.ref b16), .unset, .unset, .unset] [(.int x3), (.ref b10_0), (.ref b23), (.ref b23)]))
      have Z29 := (Nat.le_trans Z24 E23.1)
      refine own_cp X23 hx hZ hown rfl (hw _ (own_m 29 rfl)) (hw _ (own_m 30 rfl)) (hw _ (own_m 28 rfl)) (hw _ (own_m 31 rfl)) (by decide) (rm := { frames := 1, cells := 0, slots := 0, locals := 12 }) (rm_init_14 l Z a0 hw [] b23 b10_0 x3 h23 n0 Z29 A23 f26 f27 ge25) (by decide) (W := 1) (by decide) (by decide) (by decide) e23 (by rw [hml]; rfl) (argsL := [(.ref b10_0), (.int x3)]) (lenOf own_pd6 rfl) (rest := [(.ref b23)]) rfl rfl (Nat.le_of_eq rfl) (hb hby at_100) ?_
      intro _ T28 L28 X28 hQ28
      obtain ⟨rfl, N28q, K28, f28_0, f28_1⟩ := hQ28
      have N28 := Fr.app N21 N28q
      show own_Go p e below _ (T28.setTop (mkF m 103 #[.val (.int x0), .val (.int x1), .val (.int x2), .val (.int x3), .val (.int x4), .val (.int ((x4 &&& (3 : Int32)) % (3 : Int32))), .val (.int (0 : Int32)), .val (.int ((((x4.toUInt32 >>> ((3 : Int32) &&& 31).toUInt32).toInt32) &&& (3 : Int32)) % (3 : Int32))), .val (.ref b6_0), .val (.ref b10_0), .val (.int x3), .val (.ref b16), .unset, .unset, .unset] [(.ref b23)]))
      refine own_go (fun _ hr => XS.astore X28.here hx rfl (hb hby at_103) rfl rfl (l' := #[.val (.int x0), .val (.int x1), .val (.int x2), .val (.int x3), .val (.int x4), .val (.int ((x4 &&& (3 : Int32)) % (3 : Int32))), .val (.int (0 : Int32)), .val (.int ((((x4.toUInt32 >>> ((3 : Int32) &&& 31).toUInt32).toInt32) &&& (3 : Int32)) % (3 : Int32))), .val (.ref b6_0), .val (.ref b10_0), .val (.int x3), .val (.ref b16), .val (.ref b23), .unset, .unset]) rfl (XS.iload X28.here hx rfl (hb hby at_105) rfl (XS.bipush X28.here hx rfl (hb hby at_107) (XS.iushr X28.here hx rfl (hb hby at_109) rfl (XS.iconst X28.here hx rfl (hb hby at_110) (XS.iand X28.here hx rfl (hb hby at_111) rfl (XS.istore X28.here hx rfl (hb hby at_112) rfl (l' := #[.val (.int x0), .val (.int x1), .val (.int x2), .val (.int x3), .val (.int x4), .val (.int ((x4 &&& (3 : Int32)) % (3 : Int32))), .val (.int (0 : Int32)), .val (.int ((((x4.toUInt32 >>> ((3 : Int32) &&& 31).toUInt32).toInt32) &&& (3 : Int32)) % (3 : Int32))), .val (.ref b6_0), .val (.ref b10_0), .val (.int x3), .val (.ref b16), .val (.ref b23), .val (.int (((x4.toUInt32 >>> ((6 : Int32) &&& 31).toUInt32).toInt32) &&& (3 : Int32))), .unset]) rfl (XS.iload X28.here hx rfl (hb hby at_114) rfl hr)))))))) ?_
      show own_Go p e below _ (T28.setTop (mkF m 116 #[.val (.int x0), .val (.int x1), .val (.int x2), .val (.int x3), .val (.int x4), .val (.int ((x4 &&& (3 : Int32)) % (3 : Int32))), .val (.int (0 : Int32)), .val (.int ((((x4.toUInt32 >>> ((3 : Int32) &&& 31).toUInt32).toInt32) &&& (3 : Int32)) % (3 : Int32))), .val (.ref b6_0), .val (.ref b10_0), .val (.int x3), .val (.ref b16), .val (.ref b23), .val (.int (((x4.toUInt32 >>> ((6 : Int32) &&& 31).toUInt32).toInt32) &&& (3 : Int32))), .unset] [(.int (((x4.toUInt32 >>> ((6 : Int32) &&& 31).toUInt32).toInt32) &&& (3 : Int32)))]))
      rcases Classical.em ((((x4.toUInt32 >>> ((6 : Int32) &&& 31).toUInt32).toInt32) &&& (3 : Int32)) = (0 : Int32)) with c30 | c30
      · skip
        refine own_go (fun _ hr => XS.ifNo X28.here hx rfl (hb hby at_116) rfl ((if0 _ _).trans (teq c30).2) hr) ?_
        show own_Go p e below _ (T28.setTop (mkF m 119 #[.val (.int x0), .val (.int x1), .val (.int x2), .val (.int x3), .val (.int x4), .val (.int ((x4 &&& (3 : Int32)) % (3 : Int32))), .val (.int (0 : Int32)), .val (.int ((((x4.toUInt32 >>> ((3 : Int32) &&& 31).toUInt32).toInt32) &&& (3 : Int32)) % (3 : Int32))), .val (.ref b6_0), .val (.ref b10_0), .val (.int x3), .val (.ref b16), .val (.ref b23), .val (.int (((x4.toUInt32 >>> ((6 : Int32) &&& 31).toUInt32).toInt32) &&& (3 : Int32))), .unset] []))
        refine own_go (fun _ hr => XS.iloadN X28.here hx rfl (hb hby at_119) rfl (XS.iload X28.here hx rfl (hb hby at_120) rfl hr)) ?_
        show own_Go p e below _ (T28.setTop (mkF m 122 #[.val (.int x0), .val (.int x1), .val (.int x2), .val (.int x3), .val (.int x4), .val (.int ((x4 &&& (3 : Int32)) % (3 : Int32))), .val (.int (0 : Int32)), .val (.int ((((x4.toUInt32 >>> ((3 : Int32) &&& 31).toUInt32).toInt32) &&& (3 : Int32)) % (3 : Int32))), .val (.ref b6_0), .val (.ref b10_0), .val (.int x3), .val (.ref b16), .val (.ref b23), .val (.int (((x4.toUInt32 >>> ((6 : Int32) &&& 31).toUInt32).toInt32) &&& (3 : Int32))), .unset] [(.int x3), (.int x2)]))
        rcases Classical.em (x2 = x3) with c31 | c31
        · skip
          refine own_go (fun _ hr => XS.icmpNo X28.here hx rfl (hb hby at_122) rfl (teq c31).2 hr) ?_
          show own_Go p e below _ (T28.setTop (mkF m 125 #[.val (.int x0), .val (.int x1), .val (.int x2), .val (.int x3), .val (.int x4), .val (.int ((x4 &&& (3 : Int32)) % (3 : Int32))), .val (.int (0 : Int32)), .val (.int ((((x4.toUInt32 >>> ((3 : Int32) &&& 31).toUInt32).toInt32) &&& (3 : Int32)) % (3 : Int32))), .val (.ref b6_0), .val (.ref b10_0), .val (.int x3), .val (.ref b16), .val (.ref b23), .val (.int (((x4.toUInt32 >>> ((6 : Int32) &&& 31).toUInt32).toInt32) &&& (3 : Int32))), .unset] []))
          refine own_go (fun _ hr => XS.aload X28.here hx rfl (hb hby at_125) rfl rfl (XS.aload X28.here hx rfl (hb hby at_127) rfl rfl hr)) ?_
          show own_Go p e below _ (T28.setTop (mkF m 129 #[.val (.int x0), .val (.int x1), .val (.int x2), .val (.int x3), .val (.int x4), .val (.int ((x4 &&& (3 : Int32)) % (3 : Int32))), .val (.int (0 : Int32)), .val (.int ((((x4.toUInt32 >>> ((3 : Int32) &&& 31).toUInt32).toInt32) &&& (3 : Int32)) % (3 : Int32))), .val (.ref b6_0), .val (.ref b10_0), .val (.int x3), .val (.ref b16), .val (.ref b23), .val (.int (((x4.toUInt32 >>> ((6 : Int32) &&& 31).toUInt32).toInt32) &&& (3 : Int32))), .unset] [(.ref b10_0), (.ref b6_0)]))
          rcases Classical.em ((own_leq x0 ((x4 &&& (3 : Int32)) % (3 : Int32)) x1 ((((x4.toUInt32 >>> ((3 : Int32) &&& 31).toUInt32).toInt32) &&& (3 : Int32)) % (3 : Int32))) = (0 : Int32)) with c32 | c32
          · skip
            have f34 := ((((f10_0.ext E16).keep K21).ext E23).keep K28)
            have f35 := (own_sta_keep ((own_sta_keep ((own_sta_keep f11 K10 all0).ext E16) K21 (allS (own_ns_exa A16) all0)).ext E23) K28 (allS (own_ns_exa A23) all0))
            have f36 := (((((f6_1.keep K10 nin0).ext E16).keep K21 (ninS (Nat.ne_of_lt (Nat.lt_of_lt_of_le (f6_0.keep K10).lt (Nat.le_of_eq g16.symm))) nin0)).ext E23).keep K28 (ninS (Nat.ne_of_lt (Nat.lt_of_lt_of_le (((f6_0.keep K10).ext E16).keep K21).lt (Nat.le_of_eq g23.symm))) nin0))
            have f37 := ((((f10_1.ext E16).keep K21 (ninS (Nat.ne_of_lt (Nat.lt_of_lt_of_le f10_0.lt (Nat.le_of_eq g16.symm))) nin0)).ext E23).keep K28 (ninS (Nat.ne_of_lt (Nat.lt_of_lt_of_le ((f10_0.ext E16).keep K21).lt (Nat.le_of_eq g23.symm))) nin0))
            have f38 := (((((f6_2.keep K10 nin0).ext E16).keep K21 (ninS (Nat.ne_of_lt (Nat.lt_of_lt_of_le (f6_0.keep K10).lt (Nat.le_of_eq g16.symm))) nin0)).ext E23).keep K28 (ninS (Nat.ne_of_lt (Nat.lt_of_lt_of_le (((f6_0.keep K10).ext E16).keep K21).lt (Nat.le_of_eq g23.symm))) nin0))
            have f39 := ((((f10_2.ext E16).keep K21 (ninS (Nat.ne_of_lt (Nat.lt_of_lt_of_le f10_0.lt (Nat.le_of_eq g16.symm))) nin0)).ext E23).keep K28 (ninS (Nat.ne_of_lt (Nat.lt_of_lt_of_le ((f10_0.ext E16).keep K21).lt (Nat.le_of_eq g23.symm))) nin0))
            have f40 := (((((f6_3.keep K10 nin0).ext E16).keep K21 (ninS (Nat.ne_of_lt (Nat.lt_of_lt_of_le (f6_3.keep K10 nin0).lt (Nat.le_of_eq g16.symm))) nin0)).ext E23).keep K28 (ninS (Nat.ne_of_lt (Nat.lt_of_lt_of_le (((f6_3.keep K10 nin0).ext E16).keep K21 (ninS (Nat.ne_of_lt (Nat.lt_of_lt_of_le (f6_3.keep K10 nin0).lt (Nat.le_of_eq g16.symm))) nin0)).lt (Nat.le_of_eq g23.symm))) nin0))
            have f41 := ((((f10_3.ext E16).keep K21 (ninS (Nat.ne_of_lt (Nat.lt_of_lt_of_le f10_3.lt (Nat.le_of_eq g16.symm))) nin0)).ext E23).keep K28 (ninS (Nat.ne_of_lt (Nat.lt_of_lt_of_le ((f10_3.ext E16).keep K21 (ninS (Nat.ne_of_lt (Nat.lt_of_lt_of_le f10_3.lt (Nat.le_of_eq g16.symm))) nin0)).lt (Nat.le_of_eq g23.symm))) nin0))
            have Z42 := (Nat.le_trans Z29 K28.1)
            have f43 := (((((f6_0.keep K10).ext E16).keep K21).ext E23).keep K28)
            refine own_cv X28 hx hZ hown (notFace_of_selects (args := #[]) (mvT hZ (hw _ (own_m 58 rfl)))) (hw _ (own_m 55 rfl)) (hw _ (own_m 56 rfl)) (hw _ (own_m 58 rfl)) (hw _ (own_m 57 rfl)) (hw _ (own_m 6 rfl)) (hw _ (own_m 59 rfl)) (by decide) f43 (rm := { frames := 1, cells := 0, slots := 0, locals := 14 }) (rm_equals_15 l Z a0 hw [] b6_0 b10_0 i_COMPACT_STRINGS b6_1 b10_1 ((x4 &&& (3 : Int32)) % (3 : Int32)) x0 kb6_0 ((((x4.toUInt32 >>> ((3 : Int32) &&& 31).toUInt32).toInt32) &&& (3 : Int32)) % (3 : Int32)) x1 kb10_0 T28.heap n0 Z42 f34 f35 f36 f37 f38 f39 f40 f41 (Nat.ne_of_lt (Nat.lt_of_lt_of_le f6_0.lt sz10_0)) hs_COMPACT_STRINGS c5 c4 c9 c8 c32) (by decide) (W := 0) (by decide) (by decide) (by decide) rfl (by rw [hml]; rfl) (argsL := [(.ref b10_0)]) (lenOf own_pd8 rfl) (rest := []) rfl rfl (Nat.le_of_eq rfl) (hb hby at_129) ?_
            intro _ T33 L33 X33 hQ33
            obtain ⟨rfl, N33q, e33⟩ := hQ33
            have N33 := Fr.app N28 N33q
            show own_Go p e below _ (T33.setTop (mkF m 132 #[.val (.int x0), .val (.int x1), .val (.int x2), .val (.int x3), .val (.int x4), .val (.int ((x4 &&& (3 : Int32)) % (3 : Int32))), .val (.int (0 : Int32)), .val (.int ((((x4.toUInt32 >>> ((3 : Int32) &&& 31).toUInt32).toInt32) &&& (3 : Int32)) % (3 : Int32))), .val (.ref b6_0), .val (.ref b10_0), .val (.int x3), .val (.ref b16), .val (.ref b23), .val (.int (((x4.toUInt32 >>> ((6 : Int32) &&& 31).toUInt32).toInt32) &&& (3 : Int32))), .unset] [(.int (0 : Int32))]))
            refine own_go (fun _ hr => XS.ifYes X33.here hx rfl (pc0 := 132) (pc' := 139) rfl (hb hby at_132) rfl ((if0 _ _).trans (teq (by decide)).1) (by decide) (by decide) (XS.iconst X33.here hx rfl (hb hby at_139) (XS.istore X33.here hx rfl (hb hby at_140) rfl (l' := #[.val (.int x0), .val (.int x1), .val (.int x2), .val (.int x3), .val (.int x4), .val (.int ((x4 &&& (3 : Int32)) % (3 : Int32))), .val (.int (0 : Int32)), .val (.int ((((x4.toUInt32 >>> ((3 : Int32) &&& 31).toUInt32).toInt32) &&& (3 : Int32)) % (3 : Int32))), .val (.ref b6_0), .val (.ref b10_0), .val (.int x3), .val (.ref b16), .val (.ref b23), .val (.int (((x4.toUInt32 >>> ((6 : Int32) &&& 31).toUInt32).toInt32) &&& (3 : Int32))), .val (.int (0 : Int32))]) rfl (XS.aload X33.here hx rfl (hb hby at_142) rfl rfl (XS.aload X33.here hx rfl (hb hby at_144) rfl rfl hr))))) ?_
            show own_Go p e below _ (T33.setTop (mkF m 146 #[.val (.int x0), .val (.int x1), .val (.int x2), .val (.int x3), .val (.int x4), .val (.int ((x4 &&& (3 : Int32)) % (3 : Int32))), .val (.int (0 : Int32)), .val (.int ((((x4.toUInt32 >>> ((3 : Int32) &&& 31).toUInt32).toInt32) &&& (3 : Int32)) % (3 : Int32))), .val (.ref b6_0), .val (.ref b10_0), .val (.int x3), .val (.ref b16), .val (.ref b23), .val (.int (((x4.toUInt32 >>> ((6 : Int32) &&& 31).toUInt32).toInt32) &&& (3 : Int32))), .val (.int (0 : Int32))] [(.ref b23), (.ref b16)]))
            have f45 := (A23.keep K28)
            have f46 := ((f21_0.ext E23).keep K28 (ninS (Nat.ne_of_lt (Nat.lt_of_lt_of_le (A16.keep K21).lt (Nat.le_of_eq g23.symm))) nin0))
            have f47 := ((f21_1.ext E23).keep K28 (ninS (Nat.ne_of_lt (Nat.lt_of_lt_of_le (A16.keep K21).lt (Nat.le_of_eq g23.symm))) nin0))
            have f48 := (((A16.keep K21).ext E23).keep K28)
            refine own_cv X33 hx hZ hown (notFace_of_selects (args := #[]) (mvT hZ (hw _ (own_m 40 rfl)))) (hw _ (own_m 37 rfl)) (hw _ (own_m 38 rfl)) (hw _ (own_m 40 rfl)) (hw _ (own_m 39 rfl)) (hw _ (own_m 28 rfl)) (hw _ (own_m 41 rfl)) (by decide) f48 (rm := { frames := 2, cells := 0, slots := 0, locals := 28 }) (rm_equals_16 l Z a0 hw [] b16 b23 x2 x3 b6_0 b10_0 i_COMPACT_STRINGS b6_1 b10_1 ((x4 &&& (3 : Int32)) % (3 : Int32)) x0 kb6_0 ((((x4.toUInt32 >>> ((3 : Int32) &&& 31).toUInt32).toInt32) &&& (3 : Int32)) % (3 : Int32)) x1 kb10_0 T28.heap n0 Z42 f45 f46 f28_0 f47 f28_1 f34 f35 f36 f37 f38 f39 f40 f41 f43 (Nat.ne_of_lt (Nat.lt_of_lt_of_le (A16.keep K21).lt (Nat.le_of_eq g23.symm))) (Nat.ne_of_lt (Nat.lt_of_lt_of_le f6_0.lt sz10_0)) c31 hs_COMPACT_STRINGS c5 c4 c9 c8 c32) (by decide) (W := 0) (by decide) (by decide) (by decide) e33 (by rw [hml]; rfl) (argsL := [(.ref b23)]) (lenOf own_pd8 rfl) (rest := []) rfl rfl (Nat.le_of_eq rfl) (hb hby at_146) ?_
            intro _ T44 L44 X44 hQ44
            obtain ⟨rfl, N44q, e44⟩ := hQ44
            have N44 := Fr.app N33 N44q
            show own_Go p e below _ (T44.setTop (mkF m 149 #[.val (.int x0), .val (.int x1), .val (.int x2), .val (.int x3), .val (.int x4), .val (.int ((x4 &&& (3 : Int32)) % (3 : Int32))), .val (.int (0 : Int32)), .val (.int ((((x4.toUInt32 >>> ((3 : Int32) &&& 31).toUInt32).toInt32) &&& (3 : Int32)) % (3 : Int32))), .val (.ref b6_0), .val (.ref b10_0), .val (.int x3), .val (.ref b16), .val (.ref b23), .val (.int (((x4.toUInt32 >>> ((6 : Int32) &&& 31).toUInt32).toInt32) &&& (3 : Int32))), .val (.int (0 : Int32))] [(.int (0 : Int32))]))
            refine own_go (fun _ hr => XS.iload X44.here hx rfl (hb hby at_149) rfl (XS.icmpNo X44.here hx rfl (hb hby at_151) rfl (teq (by decide)).2 (XS.aload X44.here hx rfl (hb hby at_154) rfl rfl (XS.aload X44.here hx rfl (hb hby at_156) rfl rfl hr)))) ?_
            show own_Go p e below _ (T44.setTop (mkF m 158 #[.val (.int x0), .val (.int x1), .val (.int x2), .val (.int x3), .val (.int x4), .val (.int ((x4 &&& (3 : Int32)) % (3 : Int32))), .val (.int (0 : Int32)), .val (.int ((((x4.toUInt32 >>> ((3 : Int32) &&& 31).toUInt32).toInt32) &&& (3 : Int32)) % (3 : Int32))), .val (.ref b6_0), .val (.ref b10_0), .val (.int x3), .val (.ref b16), .val (.ref b23), .val (.int (((x4.toUInt32 >>> ((6 : Int32) &&& 31).toUInt32).toInt32) &&& (3 : Int32))), .val (.int (0 : Int32))] [(.ref b16), (.ref b23)]))
            have c49 : (own_leq x1 ((((x4.toUInt32 >>> ((3 : Int32) &&& 31).toUInt32).toInt32) &&& (3 : Int32)) % (3 : Int32)) x0 ((x4 &&& (3 : Int32)) % (3 : Int32))) = (0 : Int32) := by rw [own_leq_comm]; exact c32
            refine own_cv X44 hx hZ hown (notFace_of_selects (args := #[]) (mvT hZ (hw _ (own_m 40 rfl)))) (hw _ (own_m 37 rfl)) (hw _ (own_m 38 rfl)) (hw _ (own_m 40 rfl)) (hw _ (own_m 39 rfl)) (hw _ (own_m 28 rfl)) (hw _ (own_m 41 rfl)) (by decide) f45 (rm := { frames := 2, cells := 0, slots := 0, locals := 28 }) (rm_equals_16 l Z a0 hw [] b23 b16 x3 x2 b10_0 b6_0 i_COMPACT_STRINGS b10_1 b6_1 ((((x4.toUInt32 >>> ((3 : Int32) &&& 31).toUInt32).toInt32) &&& (3 : Int32)) % (3 : Int32)) x1 kb10_0 ((x4 &&& (3 : Int32)) % (3 : Int32)) x0 kb6_0 T28.heap n0 Z42 f48 f28_0 f46 f28_1 f47 f43 f35 f37 f36 f39 f38 f41 f40 f34 (Ne.symm (Nat.ne_of_lt (Nat.lt_of_lt_of_le (A16.keep K21).lt (Nat.le_of_eq g23.symm)))) (Ne.symm (Nat.ne_of_lt (Nat.lt_of_lt_of_le f6_0.lt sz10_0))) c31.symm hs_COMPACT_STRINGS c9 c8 c5 c4 c49) (by decide) (W := 0) (by decide) (by decide) (by decide) e44 (by rw [hml]; rfl) (argsL := [(.ref b16)]) (lenOf own_pd8 rfl) (rest := []) rfl rfl (Nat.le_of_eq rfl) (hb hby at_158) ?_
            intro _ T50 L50 X50 hQ50
            obtain ⟨rfl, N50q, e50⟩ := hQ50
            have N50 := Fr.app N44 N50q
            show own_Go p e below _ (T50.setTop (mkF m 161 #[.val (.int x0), .val (.int x1), .val (.int x2), .val (.int x3), .val (.int x4), .val (.int ((x4 &&& (3 : Int32)) % (3 : Int32))), .val (.int (0 : Int32)), .val (.int ((((x4.toUInt32 >>> ((3 : Int32) &&& 31).toUInt32).toInt32) &&& (3 : Int32)) % (3 : Int32))), .val (.ref b6_0), .val (.ref b10_0), .val (.int x3), .val (.ref b16), .val (.ref b23), .val (.int (((x4.toUInt32 >>> ((6 : Int32) &&& 31).toUInt32).toInt32) &&& (3 : Int32))), .val (.int (0 : Int32))] [(.int (0 : Int32))]))
            refine own_go (fun _ hr => XS.iload X50.here hx rfl (hb hby at_161) rfl (XS.icmpNo X50.here hx rfl (hb hby at_163) rfl (teq (by decide)).2 (XS.iconst X50.here hx rfl (hb hby at_166) (XS.goto X50.here hx rfl (pc0 := 167) (pc' := 171) rfl (hb hby at_167) (by decide) (by decide) hr)))) ?_
            show own_Go p e below _ (T50.setTop (mkF m 171 #[.val (.int x0), .val (.int x1), .val (.int x2), .val (.int x3), .val (.int x4), .val (.int ((x4 &&& (3 : Int32)) % (3 : Int32))), .val (.int (0 : Int32)), .val (.int ((((x4.toUInt32 >>> ((3 : Int32) &&& 31).toUInt32).toInt32) &&& (3 : Int32)) % (3 : Int32))), .val (.ref b6_0), .val (.ref b10_0), .val (.int x3), .val (.ref b16), .val (.ref b23), .val (.int (((x4.toUInt32 >>> ((6 : Int32) &&& 31).toUInt32).toInt32) &&& (3 : Int32))), .val (.int (0 : Int32))] [(.int (1 : Int32))]))
            have hk51 := (Nat.le_trans (Nat.le_trans (Nat.le_trans (Nat.le_trans (Nat.le_refl _) E16.1) K21.1) E23.1) K28.1)
            have A52 := A14.trans Ac10
            have A53 := A52.trans (CHr.ext E16 A52.1)
            have sf55 := (Safe.ext E16 A52.1 (Safe.new (Nat.le_of_eq g16.symm)))
            have A54 := A53.trans (CHr.keep K21 (sfS sf55 sf0) A53.1)
            have A56 := A54.trans (CHr.ext E23 A54.1)
            have sf58 := (Safe.ext E23 A54.1 (Safe.new (Nat.le_of_eq g23.symm)))
            have A57 := A56.trans (CHr.keep K28 (sfS sf58 sf0) A56.1)
            exact own_retNW X50 hx hlk Bd.returns hS hk51 hZ hEL hh e50 A57 (t := .boolean) (by simp) (hb hby at_171) (by decide) (by decide) ⟨rfl, N50⟩
          have f60 := ((((f10_0.ext E16).keep K21).ext E23).keep K28)
          have f61 := (own_sta_keep ((own_sta_keep ((own_sta_keep f11 K10 all0).ext E16) K21 (allS (own_ns_exa A16) all0)).ext E23) K28 (allS (own_ns_exa A23) all0))
          have f62 := (((((f6_1.keep K10 nin0).ext E16).keep K21 (ninS (Nat.ne_of_lt (Nat.lt_of_lt_of_le (f6_0.keep K10).lt (Nat.le_of_eq g16.symm))) nin0)).ext E23).keep K28 (ninS (Nat.ne_of_lt (Nat.lt_of_lt_of_le (((f6_0.keep K10).ext E16).keep K21).lt (Nat.le_of_eq g23.symm))) nin0))
          have f63 := ((((f10_1.ext E16).keep K21 (ninS (Nat.ne_of_lt (Nat.lt_of_lt_of_le f10_0.lt (Nat.le_of_eq g16.symm))) nin0)).ext E23).keep K28 (ninS (Nat.ne_of_lt (Nat.lt_of_lt_of_le ((f10_0.ext E16).keep K21).lt (Nat.le_of_eq g23.symm))) nin0))
          have f64 := (((((f6_2.keep K10 nin0).ext E16).keep K21 (ninS (Nat.ne_of_lt (Nat.lt_of_lt_of_le (f6_0.keep K10).lt (Nat.le_of_eq g16.symm))) nin0)).ext E23).keep K28 (ninS (Nat.ne_of_lt (Nat.lt_of_lt_of_le (((f6_0.keep K10).ext E16).keep K21).lt (Nat.le_of_eq g23.symm))) nin0))
          have f65 := ((((f10_2.ext E16).keep K21 (ninS (Nat.ne_of_lt (Nat.lt_of_lt_of_le f10_0.lt (Nat.le_of_eq g16.symm))) nin0)).ext E23).keep K28 (ninS (Nat.ne_of_lt (Nat.lt_of_lt_of_le ((f10_0.ext E16).keep K21).lt (Nat.le_of_eq g23.symm))) nin0))
          have f66 := (((((f6_3.keep K10 nin0).ext E16).keep K21 (ninS (Nat.ne_of_lt (Nat.lt_of_lt_of_le (f6_3.keep K10 nin0).lt (Nat.le_of_eq g16.symm))) nin0)).ext E23).keep K28 (ninS (Nat.ne_of_lt (Nat.lt_of_lt_of_le (((f6_3.keep K10 nin0).ext E16).keep K21 (ninS (Nat.ne_of_lt (Nat.lt_of_lt_of_le (f6_3.keep K10 nin0).lt (Nat.le_of_eq g16.symm))) nin0)).lt (Nat.le_of_eq g23.symm))) nin0))
          have f67 := ((((f10_3.ext E16).keep K21 (ninS (Nat.ne_of_lt (Nat.lt_of_lt_of_le f10_3.lt (Nat.le_of_eq g16.symm))) nin0)).ext E23).keep K28 (ninS (Nat.ne_of_lt (Nat.lt_of_lt_of_le ((f10_3.ext E16).keep K21 (ninS (Nat.ne_of_lt (Nat.lt_of_lt_of_le f10_3.lt (Nat.le_of_eq g16.symm))) nin0)).lt (Nat.le_of_eq g23.symm))) nin0))
          have Z68 := (Nat.le_trans Z29 K28.1)
          have f69 := (((((f6_0.keep K10).ext E16).keep K21).ext E23).keep K28)
          refine own_cv X28 hx hZ hown (notFace_of_selects (args := #[]) (mvT hZ (hw _ (own_m 58 rfl)))) (hw _ (own_m 55 rfl)) (hw _ (own_m 56 rfl)) (hw _ (own_m 58 rfl)) (hw _ (own_m 57 rfl)) (hw _ (own_m 6 rfl)) (hw _ (own_m 59 rfl)) (by decide) f69 (rm := { frames := 1, cells := 0, slots := 0, locals := 14 }) (rm_equals_17 l Z a0 hw [] b6_0 b10_0 i_COMPACT_STRINGS b6_1 b10_1 ((x4 &&& (3 : Int32)) % (3 : Int32)) x0 kb6_0 ((((x4.toUInt32 >>> ((3 : Int32) &&& 31).toUInt32).toInt32) &&& (3 : Int32)) % (3 : Int32)) x1 kb10_0 T28.heap n0 Z68 f60 f61 f62 f63 f64 f65 f66 f67 (Nat.ne_of_lt (Nat.lt_of_lt_of_le f6_0.lt sz10_0)) hs_COMPACT_STRINGS c5 c4 c9 c8 c32) (by decide) (W := 0) (by decide) (by decide) (by decide) rfl (by rw [hml]; rfl) (argsL := [(.ref b10_0)]) (lenOf own_pd8 rfl) (rest := []) rfl rfl (Nat.le_of_eq rfl) (hb hby at_129) ?_
          intro _ T59 L59 X59 hQ59
          obtain ⟨rfl, N59q, e59⟩ := hQ59
          have N59 := Fr.app N28 N59q
          show own_Go p e below _ (T59.setTop (mkF m 132 #[.val (.int x0), .val (.int x1), .val (.int x2), .val (.int x3), .val (.int x4), .val (.int ((x4 &&& (3 : Int32)) % (3 : Int32))), .val (.int (0 : Int32)), .val (.int ((((x4.toUInt32 >>> ((3 : Int32) &&& 31).toUInt32).toInt32) &&& (3 : Int32)) % (3 : Int32))), .val (.ref b6_0), .val (.ref b10_0), .val (.int x3), .val (.ref b16), .val (.ref b23), .val (.int (((x4.toUInt32 >>> ((6 : Int32) &&& 31).toUInt32).toInt32) &&& (3 : Int32))), .unset] [(.int (1 : Int32))]))
          refine own_go (fun _ hr => XS.ifNo X59.here hx rfl (hb hby at_132) rfl ((if0 _ _).trans (feq (by decide)).1) (XS.iconst X59.here hx rfl (hb hby at_135) (XS.goto X59.here hx rfl (pc0 := 136) (pc' := 140) rfl (hb hby at_136) (by decide) (by decide) (XS.istore X59.here hx rfl (hb hby at_140) rfl (l' := #[.val (.int x0), .val (.int x1), .val (.int x2), .val (.int x3), .val (.int x4), .val (.int ((x4 &&& (3 : Int32)) % (3 : Int32))), .val (.int (0 : Int32)), .val (.int ((((x4.toUInt32 >>> ((3 : Int32) &&& 31).toUInt32).toInt32) &&& (3 : Int32)) % (3 : Int32))), .val (.ref b6_0), .val (.ref b10_0), .val (.int x3), .val (.ref b16), .val (.ref b23), .val (.int (((x4.toUInt32 >>> ((6 : Int32) &&& 31).toUInt32).toInt32) &&& (3 : Int32))), .val (.int (1 : Int32))]) rfl (XS.aload X59.here hx rfl (hb hby at_142) rfl rfl (XS.aload X59.here hx rfl (hb hby at_144) rfl rfl hr)))))) ?_
          show own_Go p e below _ (T59.setTop (mkF m 146 #[.val (.int x0), .val (.int x1), .val (.int x2), .val (.int x3), .val (.int x4), .val (.int ((x4 &&& (3 : Int32)) % (3 : Int32))), .val (.int (0 : Int32)), .val (.int ((((x4.toUInt32 >>> ((3 : Int32) &&& 31).toUInt32).toInt32) &&& (3 : Int32)) % (3 : Int32))), .val (.ref b6_0), .val (.ref b10_0), .val (.int x3), .val (.ref b16), .val (.ref b23), .val (.int (((x4.toUInt32 >>> ((6 : Int32) &&& 31).toUInt32).toInt32) &&& (3 : Int32))), .val (.int (1 : Int32))] [(.ref b23), (.ref b16)]))
          have f71 := (A23.keep K28)
          have f72 := ((f21_0.ext E23).keep K28 (ninS (Nat.ne_of_lt (Nat.lt_of_lt_of_le (A16.keep K21).lt (Nat.le_of_eq g23.symm))) nin0))
          have f73 := ((f21_1.ext E23).keep K28 (ninS (Nat.ne_of_lt (Nat.lt_of_lt_of_le (A16.keep K21).lt (Nat.le_of_eq g23.symm))) nin0))
          have f74 := (((A16.keep K21).ext E23).keep K28)
          refine own_cv X59 hx hZ hown (notFace_of_selects (args := #[]) (mvT hZ (hw _ (own_m 40 rfl)))) (hw _ (own_m 37 rfl)) (hw _ (own_m 38 rfl)) (hw _ (own_m 40 rfl)) (hw _ (own_m 39 rfl)) (hw _ (own_m 28 rfl)) (hw _ (own_m 41 rfl)) (by decide) f74 (rm := { frames := 2, cells := 0, slots := 0, locals := 28 }) (rm_equals_18 l Z a0 hw [] b16 b23 x2 x3 b6_0 b10_0 i_COMPACT_STRINGS b6_1 b10_1 ((x4 &&& (3 : Int32)) % (3 : Int32)) x0 kb6_0 ((((x4.toUInt32 >>> ((3 : Int32) &&& 31).toUInt32).toInt32) &&& (3 : Int32)) % (3 : Int32)) x1 kb10_0 T28.heap n0 Z68 f71 f72 f28_0 f73 f28_1 f60 f61 f62 f63 f64 f65 f66 f67 f69 (Nat.ne_of_lt (Nat.lt_of_lt_of_le (A16.keep K21).lt (Nat.le_of_eq g23.symm))) (Nat.ne_of_lt (Nat.lt_of_lt_of_le f6_0.lt sz10_0)) c31 hs_COMPACT_STRINGS c5 c4 c9 c8 c32) (by decide) (W := 0) (by decide) (by decide) (by decide) e59 (by rw [hml]; rfl) (argsL := [(.ref b23)]) (lenOf own_pd8 rfl) (rest := []) rfl rfl (Nat.le_of_eq rfl) (hb hby at_146) ?_
          intro _ T70 L70 X70 hQ70
          obtain ⟨rfl, N70q, e70⟩ := hQ70
          have N70 := Fr.app N59 N70q
          show own_Go p e below _ (T70.setTop (mkF m 149 #[.val (.int x0), .val (.int x1), .val (.int x2), .val (.int x3), .val (.int x4), .val (.int ((x4 &&& (3 : Int32)) % (3 : Int32))), .val (.int (0 : Int32)), .val (.int ((((x4.toUInt32 >>> ((3 : Int32) &&& 31).toUInt32).toInt32) &&& (3 : Int32)) % (3 : Int32))), .val (.ref b6_0), .val (.ref b10_0), .val (.int x3), .val (.ref b16), .val (.ref b23), .val (.int (((x4.toUInt32 >>> ((6 : Int32) &&& 31).toUInt32).toInt32) &&& (3 : Int32))), .val (.int (1 : Int32))] [(.int (1 : Int32))]))
          refine own_go (fun _ hr => XS.iload X70.here hx rfl (hb hby at_149) rfl (XS.icmpNo X70.here hx rfl (hb hby at_151) rfl (teq (by decide)).2 (XS.aload X70.here hx rfl (hb hby at_154) rfl rfl (XS.aload X70.here hx rfl (hb hby at_156) rfl rfl hr)))) ?_
          show own_Go p e below _ (T70.setTop (mkF m 158 #[.val (.int x0), .val (.int x1), .val (.int x2), .val (.int x3), .val (.int x4), .val (.int ((x4 &&& (3 : Int32)) % (3 : Int32))), .val (.int (0 : Int32)), .val (.int ((((x4.toUInt32 >>> ((3 : Int32) &&& 31).toUInt32).toInt32) &&& (3 : Int32)) % (3 : Int32))), .val (.ref b6_0), .val (.ref b10_0), .val (.int x3), .val (.ref b16), .val (.ref b23), .val (.int (((x4.toUInt32 >>> ((6 : Int32) &&& 31).toUInt32).toInt32) &&& (3 : Int32))), .val (.int (1 : Int32))] [(.ref b16), (.ref b23)]))
          have c75 : ¬ ((own_leq x1 ((((x4.toUInt32 >>> ((3 : Int32) &&& 31).toUInt32).toInt32) &&& (3 : Int32)) % (3 : Int32)) x0 ((x4 &&& (3 : Int32)) % (3 : Int32))) = (0 : Int32)) := by rw [own_leq_comm]; exact c32
          refine own_cv X70 hx hZ hown (notFace_of_selects (args := #[]) (mvT hZ (hw _ (own_m 40 rfl)))) (hw _ (own_m 37 rfl)) (hw _ (own_m 38 rfl)) (hw _ (own_m 40 rfl)) (hw _ (own_m 39 rfl)) (hw _ (own_m 28 rfl)) (hw _ (own_m 41 rfl)) (by decide) f71 (rm := { frames := 2, cells := 0, slots := 0, locals := 28 }) (rm_equals_18 l Z a0 hw [] b23 b16 x3 x2 b10_0 b6_0 i_COMPACT_STRINGS b10_1 b6_1 ((((x4.toUInt32 >>> ((3 : Int32) &&& 31).toUInt32).toInt32) &&& (3 : Int32)) % (3 : Int32)) x1 kb10_0 ((x4 &&& (3 : Int32)) % (3 : Int32)) x0 kb6_0 T28.heap n0 Z68 f74 f28_0 f72 f28_1 f73 f69 f61 f63 f62 f65 f64 f67 f66 f60 (Ne.symm (Nat.ne_of_lt (Nat.lt_of_lt_of_le (A16.keep K21).lt (Nat.le_of_eq g23.symm)))) (Ne.symm (Nat.ne_of_lt (Nat.lt_of_lt_of_le f6_0.lt sz10_0))) c31.symm hs_COMPACT_STRINGS c9 c8 c5 c4 c75) (by decide) (W := 0) (by decide) (by decide) (by decide) e70 (by rw [hml]; rfl) (argsL := [(.ref b16)]) (lenOf own_pd8 rfl) (rest := []) rfl rfl (Nat.le_of_eq rfl) (hb hby at_158) ?_
          intro _ T76 L76 X76 hQ76
          obtain ⟨rfl, N76q, e76⟩ := hQ76
          have N76 := Fr.app N70 N76q
          show own_Go p e below _ (T76.setTop (mkF m 161 #[.val (.int x0), .val (.int x1), .val (.int x2), .val (.int x3), .val (.int x4), .val (.int ((x4 &&& (3 : Int32)) % (3 : Int32))), .val (.int (0 : Int32)), .val (.int ((((x4.toUInt32 >>> ((3 : Int32) &&& 31).toUInt32).toInt32) &&& (3 : Int32)) % (3 : Int32))), .val (.ref b6_0), .val (.ref b10_0), .val (.int x3), .val (.ref b16), .val (.ref b23), .val (.int (((x4.toUInt32 >>> ((6 : Int32) &&& 31).toUInt32).toInt32) &&& (3 : Int32))), .val (.int (1 : Int32))] [(.int (1 : Int32))]))
          refine own_go (fun _ hr => XS.iload X76.here hx rfl (hb hby at_161) rfl (XS.icmpNo X76.here hx rfl (hb hby at_163) rfl (teq (by decide)).2 (XS.iconst X76.here hx rfl (hb hby at_166) (XS.goto X76.here hx rfl (pc0 := 167) (pc' := 171) rfl (hb hby at_167) (by decide) (by decide) hr)))) ?_
          show own_Go p e below _ (T76.setTop (mkF m 171 #[.val (.int x0), .val (.int x1), .val (.int x2), .val (.int x3), .val (.int x4), .val (.int ((x4 &&& (3 : Int32)) % (3 : Int32))), .val (.int (0 : Int32)), .val (.int ((((x4.toUInt32 >>> ((3 : Int32) &&& 31).toUInt32).toInt32) &&& (3 : Int32)) % (3 : Int32))), .val (.ref b6_0), .val (.ref b10_0), .val (.int x3), .val (.ref b16), .val (.ref b23), .val (.int (((x4.toUInt32 >>> ((6 : Int32) &&& 31).toUInt32).toInt32) &&& (3 : Int32))), .val (.int (1 : Int32))] [(.int (1 : Int32))]))
          have hk77 := (Nat.le_trans (Nat.le_trans (Nat.le_trans (Nat.le_trans (Nat.le_refl _) E16.1) K21.1) E23.1) K28.1)
          have A78 := A14.trans Ac10
          have A79 := A78.trans (CHr.ext E16 A78.1)
          have sf81 := (Safe.ext E16 A78.1 (Safe.new (Nat.le_of_eq g16.symm)))
          have A80 := A79.trans (CHr.keep K21 (sfS sf81 sf0) A79.1)
          have A82 := A80.trans (CHr.ext E23 A80.1)
          have sf84 := (Safe.ext E23 A80.1 (Safe.new (Nat.le_of_eq g23.symm)))
          have A83 := A82.trans (CHr.keep K28 (sfS sf84 sf0) A82.1)
          exact own_retNW X76 hx hlk Bd.returns hS hk77 hZ hEL hh e76 A83 (t := .boolean) (by simp) (hb hby at_171) (by decide) (by decide) ⟨rfl, N76⟩
        refine own_go (fun _ hr => XS.icmpYes X28.here hx rfl (pc0 := 122) (pc' := 139) rfl (hb hby at_122) rfl (feq c31).2 (by decide) (by decide) hr) ?_
        show own_Go p e below _ (T28.setTop (mkF m 139 #[.val (.int x0), .val (.int x1), .val (.int x2), .val (.int x3), .val (.int x4), .val (.int ((x4 &&& (3 : Int32)) % (3 : Int32))), .val (.int (0 : Int32)), .val (.int ((((x4.toUInt32 >>> ((3 : Int32) &&& 31).toUInt32).toInt32) &&& (3 : Int32)) % (3 : Int32))), .val (.ref b6_0), .val (.ref b10_0), .val (.int x3), .val (.ref b16), .val (.ref b23), .val (.int (((x4.toUInt32 >>> ((6 : Int32) &&& 31).toUInt32).toInt32) &&& (3 : Int32))), .unset] []))
        refine own_go (fun _ hr => XS.iconst X28.here hx rfl (hb hby at_139) (XS.istore X28.here hx rfl (hb hby at_140) rfl (l' := #[.val (.int x0), .val (.int x1), .val (.int x2), .val (.int x3), .val (.int x4), .val (.int ((x4 &&& (3 : Int32)) % (3 : Int32))), .val (.int (0 : Int32)), .val (.int ((((x4.toUInt32 >>> ((3 : Int32) &&& 31).toUInt32).toInt32) &&& (3 : Int32)) % (3 : Int32))), .val (.ref b6_0), .val (.ref b10_0), .val (.int x3), .val (.ref b16), .val (.ref b23), .val (.int (((x4.toUInt32 >>> ((6 : Int32) &&& 31).toUInt32).toInt32) &&& (3 : Int32))), .val (.int (0 : Int32))]) rfl (XS.aload X28.here hx rfl (hb hby at_142) rfl rfl (XS.aload X28.here hx rfl (hb hby at_144) rfl rfl hr)))) ?_
        show own_Go p e below _ (T28.setTop (mkF m 146 #[.val (.int x0), .val (.int x1), .val (.int x2), .val (.int x3), .val (.int x4), .val (.int ((x4 &&& (3 : Int32)) % (3 : Int32))), .val (.int (0 : Int32)), .val (.int ((((x4.toUInt32 >>> ((3 : Int32) &&& 31).toUInt32).toInt32) &&& (3 : Int32)) % (3 : Int32))), .val (.ref b6_0), .val (.ref b10_0), .val (.int x3), .val (.ref b16), .val (.ref b23), .val (.int (((x4.toUInt32 >>> ((6 : Int32) &&& 31).toUInt32).toInt32) &&& (3 : Int32))), .val (.int (0 : Int32))] [(.ref b23), (.ref b16)]))
        have f86 := (A23.keep K28)
        have f87 := ((f21_0.ext E23).keep K28 (ninS (Nat.ne_of_lt (Nat.lt_of_lt_of_le (A16.keep K21).lt (Nat.le_of_eq g23.symm))) nin0))
        have Z88 := (Nat.le_trans Z29 K28.1)
        have f89 := (((A16.keep K21).ext E23).keep K28)
        refine own_cv X28 hx hZ hown (notFace_of_selects (args := #[]) (mvT hZ (hw _ (own_m 40 rfl)))) (hw _ (own_m 37 rfl)) (hw _ (own_m 38 rfl)) (hw _ (own_m 40 rfl)) (hw _ (own_m 39 rfl)) (hw _ (own_m 28 rfl)) (hw _ (own_m 41 rfl)) (by decide) f89 (rm := { frames := 0, cells := 0, slots := 0, locals := 0 }) (rm_equals_19 l Z a0 hw [] b16 b23 x2 x3 T28.heap n0 Z88 f86 f87 f28_0 (Nat.ne_of_lt (Nat.lt_of_lt_of_le (A16.keep K21).lt (Nat.le_of_eq g23.symm))) c31) (by decide) (W := 0) (by decide) (by decide) (by decide) rfl (by rw [hml]; rfl) (argsL := [(.ref b23)]) (lenOf own_pd8 rfl) (rest := []) rfl rfl (Nat.le_of_eq rfl) (hb hby at_146) ?_
        intro _ T85 L85 X85 hQ85
        obtain ⟨rfl, N85q, e85⟩ := hQ85
        have N85 := Fr.app N28 N85q
        show own_Go p e below _ (T85.setTop (mkF m 149 #[.val (.int x0), .val (.int x1), .val (.int x2), .val (.int x3), .val (.int x4), .val (.int ((x4 &&& (3 : Int32)) % (3 : Int32))), .val (.int (0 : Int32)), .val (.int ((((x4.toUInt32 >>> ((3 : Int32) &&& 31).toUInt32).toInt32) &&& (3 : Int32)) % (3 : Int32))), .val (.ref b6_0), .val (.ref b10_0), .val (.int x3), .val (.ref b16), .val (.ref b23), .val (.int (((x4.toUInt32 >>> ((6 : Int32) &&& 31).toUInt32).toInt32) &&& (3 : Int32))), .val (.int (0 : Int32))] [(.int (0 : Int32))]))
        refine own_go (fun _ hr => XS.iload X85.here hx rfl (hb hby at_149) rfl (XS.icmpNo X85.here hx rfl (hb hby at_151) rfl (teq (by decide)).2 (XS.aload X85.here hx rfl (hb hby at_154) rfl rfl (XS.aload X85.here hx rfl (hb hby at_156) rfl rfl hr)))) ?_
        show own_Go p e below _ (T85.setTop (mkF m 158 #[.val (.int x0), .val (.int x1), .val (.int x2), .val (.int x3), .val (.int x4), .val (.int ((x4 &&& (3 : Int32)) % (3 : Int32))), .val (.int (0 : Int32)), .val (.int ((((x4.toUInt32 >>> ((3 : Int32) &&& 31).toUInt32).toInt32) &&& (3 : Int32)) % (3 : Int32))), .val (.ref b6_0), .val (.ref b10_0), .val (.int x3), .val (.ref b16), .val (.ref b23), .val (.int (((x4.toUInt32 >>> ((6 : Int32) &&& 31).toUInt32).toInt32) &&& (3 : Int32))), .val (.int (0 : Int32))] [(.ref b16), (.ref b23)]))
        refine own_cv X85 hx hZ hown (notFace_of_selects (args := #[]) (mvT hZ (hw _ (own_m 40 rfl)))) (hw _ (own_m 37 rfl)) (hw _ (own_m 38 rfl)) (hw _ (own_m 40 rfl)) (hw _ (own_m 39 rfl)) (hw _ (own_m 28 rfl)) (hw _ (own_m 41 rfl)) (by decide) f86 (rm := { frames := 0, cells := 0, slots := 0, locals := 0 }) (rm_equals_19 l Z a0 hw [] b23 b16 x3 x2 T28.heap n0 Z88 f89 f28_0 f87 (Ne.symm (Nat.ne_of_lt (Nat.lt_of_lt_of_le (A16.keep K21).lt (Nat.le_of_eq g23.symm)))) (fun q => c31 q.symm)) (by decide) (W := 0) (by decide) (by decide) (by decide) e85 (by rw [hml]; rfl) (argsL := [(.ref b16)]) (lenOf own_pd8 rfl) (rest := []) rfl rfl (Nat.le_of_eq rfl) (hb hby at_158) ?_
        intro _ T90 L90 X90 hQ90
        obtain ⟨rfl, N90q, e90⟩ := hQ90
        have N90 := Fr.app N85 N90q
        show own_Go p e below _ (T90.setTop (mkF m 161 #[.val (.int x0), .val (.int x1), .val (.int x2), .val (.int x3), .val (.int x4), .val (.int ((x4 &&& (3 : Int32)) % (3 : Int32))), .val (.int (0 : Int32)), .val (.int ((((x4.toUInt32 >>> ((3 : Int32) &&& 31).toUInt32).toInt32) &&& (3 : Int32)) % (3 : Int32))), .val (.ref b6_0), .val (.ref b10_0), .val (.int x3), .val (.ref b16), .val (.ref b23), .val (.int (((x4.toUInt32 >>> ((6 : Int32) &&& 31).toUInt32).toInt32) &&& (3 : Int32))), .val (.int (0 : Int32))] [(.int (0 : Int32))]))
        refine own_go (fun _ hr => XS.iload X90.here hx rfl (hb hby at_161) rfl (XS.icmpNo X90.here hx rfl (hb hby at_163) rfl (teq (by decide)).2 (XS.iconst X90.here hx rfl (hb hby at_166) (XS.goto X90.here hx rfl (pc0 := 167) (pc' := 171) rfl (hb hby at_167) (by decide) (by decide) hr)))) ?_
        show own_Go p e below _ (T90.setTop (mkF m 171 #[.val (.int x0), .val (.int x1), .val (.int x2), .val (.int x3), .val (.int x4), .val (.int ((x4 &&& (3 : Int32)) % (3 : Int32))), .val (.int (0 : Int32)), .val (.int ((((x4.toUInt32 >>> ((3 : Int32) &&& 31).toUInt32).toInt32) &&& (3 : Int32)) % (3 : Int32))), .val (.ref b6_0), .val (.ref b10_0), .val (.int x3), .val (.ref b16), .val (.ref b23), .val (.int (((x4.toUInt32 >>> ((6 : Int32) &&& 31).toUInt32).toInt32) &&& (3 : Int32))), .val (.int (0 : Int32))] [(.int (1 : Int32))]))
        have hk91 := (Nat.le_trans (Nat.le_trans (Nat.le_trans (Nat.le_trans (Nat.le_refl _) E16.1) K21.1) E23.1) K28.1)
        have A92 := A14.trans Ac10
        have A93 := A92.trans (CHr.ext E16 A92.1)
        have sf95 := (Safe.ext E16 A92.1 (Safe.new (Nat.le_of_eq g16.symm)))
        have A94 := A93.trans (CHr.keep K21 (sfS sf95 sf0) A93.1)
        have A96 := A94.trans (CHr.ext E23 A94.1)
        have sf98 := (Safe.ext E23 A94.1 (Safe.new (Nat.le_of_eq g23.symm)))
        have A97 := A96.trans (CHr.keep K28 (sfS sf98 sf0) A96.1)
        exact own_retNW X90 hx hlk Bd.returns hS hk91 hZ hEL hh e90 A97 (t := .boolean) (by simp) (hb hby at_171) (by decide) (by decide) ⟨rfl, N90⟩
      refine own_go (fun _ hr => XS.ifYes X28.here hx rfl (pc0 := 116) (pc' := 172) rfl (hb hby at_116) rfl ((if0 _ _).trans (feq c30).2) (by decide) (by decide) hr) ?_
      show own_Go p e below _ (T28.setTop (mkF m 172 #[.val (.int x0), .val (.int x1), .val (.int x2), .val (.int x3), .val (.int x4), .val (.int ((x4 &&& (3 : Int32)) % (3 : Int32))), .val (.int (0 : Int32)), .val (.int ((((x4.toUInt32 >>> ((3 : Int32) &&& 31).toUInt32).toInt32) &&& (3 : Int32)) % (3 : Int32))), .val (.ref b6_0), .val (.ref b10_0), .val (.int x3), .val (.ref b16), .val (.ref b23), .val (.int (((x4.toUInt32 >>> ((6 : Int32) &&& 31).toUInt32).toInt32) &&& (3 : Int32))), .unset] []))
      refine own_go (fun _ hr => XS.iload X28.here hx rfl (hb hby at_172) rfl (XS.iconst X28.here hx rfl (hb hby at_174) hr)) ?_
      show own_Go p e below _ (T28.setTop (mkF m 175 #[.val (.int x0), .val (.int x1), .val (.int x2), .val (.int x3), .val (.int x4), .val (.int ((x4 &&& (3 : Int32)) % (3 : Int32))), .val (.int (0 : Int32)), .val (.int ((((x4.toUInt32 >>> ((3 : Int32) &&& 31).toUInt32).toInt32) &&& (3 : Int32)) % (3 : Int32))), .val (.ref b6_0), .val (.ref b10_0), .val (.int x3), .val (.ref b16), .val (.ref b23), .val (.int (((x4.toUInt32 >>> ((6 : Int32) &&& 31).toUInt32).toInt32) &&& (3 : Int32))), .unset] [(.int (1 : Int32)), (.int (((x4.toUInt32 >>> ((6 : Int32) &&& 31).toUInt32).toInt32) &&& (3 : Int32)))]))
      rcases Classical.em ((((x4.toUInt32 >>> ((6 : Int32) &&& 31).toUInt32).toInt32) &&& (3 : Int32)) = (1 : Int32)) with c99 | c99
      · skip
        refine own_go (fun _ hr => XS.icmpNo X28.here hx rfl (hb hby at_175) rfl (teq c99).2 hr) ?_
        show own_Go p e below _ (T28.setTop (mkF m 178 #[.val (.int x0), .val (.int x1), .val (.int x2), .val (.int x3), .val (.int x4), .val (.int ((x4 &&& (3 : Int32)) % (3 : Int32))), .val (.int (0 : Int32)), .val (.int ((((x4.toUInt32 >>> ((3 : Int32) &&& 31).toUInt32).toInt32) &&& (3 : Int32)) % (3 : Int32))), .val (.ref b6_0), .val (.ref b10_0), .val (.int x3), .val (.ref b16), .val (.ref b23), .val (.int (((x4.toUInt32 >>> ((6 : Int32) &&& 31).toUInt32).toInt32) &&& (3 : Int32))), .unset] []))
        refine own_go (fun _ hr => XS.aload X28.here hx rfl (hb hby at_178) rfl rfl (XS.aload X28.here hx rfl (hb hby at_180) rfl rfl hr)) ?_
        show own_Go p e below _ (T28.setTop (mkF m 182 #[.val (.int x0), .val (.int x1), .val (.int x2), .val (.int x3), .val (.int x4), .val (.int ((x4 &&& (3 : Int32)) % (3 : Int32))), .val (.int (0 : Int32)), .val (.int ((((x4.toUInt32 >>> ((3 : Int32) &&& 31).toUInt32).toInt32) &&& (3 : Int32)) % (3 : Int32))), .val (.ref b6_0), .val (.ref b10_0), .val (.int x3), .val (.ref b16), .val (.ref b23), .val (.int (((x4.toUInt32 >>> ((6 : Int32) &&& 31).toUInt32).toInt32) &&& (3 : Int32))), .unset] [(.ref b16), (.ref b16)]))
        have Z101 := (Nat.le_trans Z29 K28.1)
        have f102 := (((A16.keep K21).ext E23).keep K28)
        refine own_cv X28 hx hZ hown (notFace_of_selects (args := #[]) (mvT hZ (hw _ (own_m 40 rfl)))) (hw _ (own_m 37 rfl)) (hw _ (own_m 38 rfl)) (hw _ (own_m 40 rfl)) (hw _ (own_m 39 rfl)) (hw _ (own_m 28 rfl)) (hw _ (own_m 41 rfl)) (by decide) f102 (rm := { frames := 0, cells := 0, slots := 0, locals := 0 }) (rm_equals_20 l Z a0 hw [] b16 T28.heap n0 Z101 ) (by decide) (W := 0) (by decide) (by decide) (by decide) rfl (by rw [hml]; rfl) (argsL := [(.ref b16)]) (lenOf own_pd8 rfl) (rest := []) rfl rfl (Nat.le_of_eq rfl) (hb hby at_182) ?_
        intro _ T100 L100 X100 hQ100
        obtain ⟨rfl, N100q, e100⟩ := hQ100
        have N100 := Fr.app N28 N100q
        show own_Go p e below _ (T100.setTop (mkF m 185 #[.val (.int x0), .val (.int x1), .val (.int x2), .val (.int x3), .val (.int x4), .val (.int ((x4 &&& (3 : Int32)) % (3 : Int32))), .val (.int (0 : Int32)), .val (.int ((((x4.toUInt32 >>> ((3 : Int32) &&& 31).toUInt32).toInt32) &&& (3 : Int32)) % (3 : Int32))), .val (.ref b6_0), .val (.ref b10_0), .val (.int x3), .val (.ref b16), .val (.ref b23), .val (.int (((x4.toUInt32 >>> ((6 : Int32) &&& 31).toUInt32).toInt32) &&& (3 : Int32))), .unset] [(.int (1 : Int32))]))
        have hk103 := (Nat.le_trans (Nat.le_trans (Nat.le_trans (Nat.le_trans (Nat.le_refl _) E16.1) K21.1) E23.1) K28.1)
        have A104 := A14.trans Ac10
        have A105 := A104.trans (CHr.ext E16 A104.1)
        have sf107 := (Safe.ext E16 A104.1 (Safe.new (Nat.le_of_eq g16.symm)))
        have A106 := A105.trans (CHr.keep K21 (sfS sf107 sf0) A105.1)
        have A108 := A106.trans (CHr.ext E23 A106.1)
        have sf110 := (Safe.ext E23 A106.1 (Safe.new (Nat.le_of_eq g23.symm)))
        have A109 := A108.trans (CHr.keep K28 (sfS sf110 sf0) A108.1)
        exact own_retNW X100 hx hlk Bd.returns hS hk103 hZ hEL hh e100 A109 (t := .boolean) (by simp) (hb hby at_185) (by decide) (by decide) ⟨rfl, N100⟩
      refine own_go (fun _ hr => XS.icmpYes X28.here hx rfl (pc0 := 175) (pc' := 186) rfl (hb hby at_175) rfl (feq c99).2 (by decide) (by decide) hr) ?_
      show own_Go p e below _ (T28.setTop (mkF m 186 #[.val (.int x0), .val (.int x1), .val (.int x2), .val (.int x3), .val (.int x4), .val (.int ((x4 &&& (3 : Int32)) % (3 : Int32))), .val (.int (0 : Int32)), .val (.int ((((x4.toUInt32 >>> ((3 : Int32) &&& 31).toUInt32).toInt32) &&& (3 : Int32)) % (3 : Int32))), .val (.ref b6_0), .val (.ref b10_0), .val (.int x3), .val (.ref b16), .val (.ref b23), .val (.int (((x4.toUInt32 >>> ((6 : Int32) &&& 31).toUInt32).toInt32) &&& (3 : Int32))), .unset] []))
      refine own_go (fun _ hr => XS.iload X28.here hx rfl (hb hby at_186) rfl (XS.iconst X28.here hx rfl (hb hby at_188) hr)) ?_
      show own_Go p e below _ (T28.setTop (mkF m 189 #[.val (.int x0), .val (.int x1), .val (.int x2), .val (.int x3), .val (.int x4), .val (.int ((x4 &&& (3 : Int32)) % (3 : Int32))), .val (.int (0 : Int32)), .val (.int ((((x4.toUInt32 >>> ((3 : Int32) &&& 31).toUInt32).toInt32) &&& (3 : Int32)) % (3 : Int32))), .val (.ref b6_0), .val (.ref b10_0), .val (.int x3), .val (.ref b16), .val (.ref b23), .val (.int (((x4.toUInt32 >>> ((6 : Int32) &&& 31).toUInt32).toInt32) &&& (3 : Int32))), .unset] [(.int (2 : Int32)), (.int (((x4.toUInt32 >>> ((6 : Int32) &&& 31).toUInt32).toInt32) &&& (3 : Int32)))]))
      rcases Classical.em ((((x4.toUInt32 >>> ((6 : Int32) &&& 31).toUInt32).toInt32) &&& (3 : Int32)) = (2 : Int32)) with c111 | c111
      · skip
        refine own_go (fun _ hr => XS.icmpNo X28.here hx rfl (hb hby at_189) rfl (teq c111).2 hr) ?_
        show own_Go p e below _ (T28.setTop (mkF m 192 #[.val (.int x0), .val (.int x1), .val (.int x2), .val (.int x3), .val (.int x4), .val (.int ((x4 &&& (3 : Int32)) % (3 : Int32))), .val (.int (0 : Int32)), .val (.int ((((x4.toUInt32 >>> ((3 : Int32) &&& 31).toUInt32).toInt32) &&& (3 : Int32)) % (3 : Int32))), .val (.ref b6_0), .val (.ref b10_0), .val (.int x3), .val (.ref b16), .val (.ref b23), .val (.int (((x4.toUInt32 >>> ((6 : Int32) &&& 31).toUInt32).toInt32) &&& (3 : Int32))), .unset] []))
        refine own_go (fun _ hr => XS.aload X28.here hx rfl (hb hby at_192) rfl rfl (XS.aconstNull X28.here hx rfl (hb hby at_194) hr)) ?_
        show own_Go p e below _ (T28.setTop (mkF m 195 #[.val (.int x0), .val (.int x1), .val (.int x2), .val (.int x3), .val (.int x4), .val (.int ((x4 &&& (3 : Int32)) % (3 : Int32))), .val (.int (0 : Int32)), .val (.int ((((x4.toUInt32 >>> ((3 : Int32) &&& 31).toUInt32).toInt32) &&& (3 : Int32)) % (3 : Int32))), .val (.ref b6_0), .val (.ref b10_0), .val (.int x3), .val (.ref b16), .val (.ref b23), .val (.int (((x4.toUInt32 >>> ((6 : Int32) &&& 31).toUInt32).toInt32) &&& (3 : Int32))), .unset] [.null, (.ref b16)]))
        have Z113 := (Nat.le_trans Z29 K28.1)
        have f114 := (((A16.keep K21).ext E23).keep K28)
        refine own_cv X28 hx hZ hown (notFace_of_selects (args := #[]) (mvT hZ (hw _ (own_m 40 rfl)))) (hw _ (own_m 37 rfl)) (hw _ (own_m 38 rfl)) (hw _ (own_m 40 rfl)) (hw _ (own_m 39 rfl)) (hw _ (own_m 28 rfl)) (hw _ (own_m 41 rfl)) (by decide) f114 (rm := { frames := 0, cells := 0, slots := 0, locals := 0 }) (rm_equals_21 l Z a0 hw [] b16 T28.heap n0 Z113 ) (by decide) (W := 0) (by decide) (by decide) (by decide) rfl (by rw [hml]; rfl) (argsL := [.null]) (lenOf own_pd8 rfl) (rest := []) rfl rfl (Nat.le_of_eq rfl) (hb hby at_195) ?_
        intro _ T112 L112 X112 hQ112
        obtain ⟨rfl, N112q, e112⟩ := hQ112
        have N112 := Fr.app N28 N112q
        show own_Go p e below _ (T112.setTop (mkF m 198 #[.val (.int x0), .val (.int x1), .val (.int x2), .val (.int x3), .val (.int x4), .val (.int ((x4 &&& (3 : Int32)) % (3 : Int32))), .val (.int (0 : Int32)), .val (.int ((((x4.toUInt32 >>> ((3 : Int32) &&& 31).toUInt32).toInt32) &&& (3 : Int32)) % (3 : Int32))), .val (.ref b6_0), .val (.ref b10_0), .val (.int x3), .val (.ref b16), .val (.ref b23), .val (.int (((x4.toUInt32 >>> ((6 : Int32) &&& 31).toUInt32).toInt32) &&& (3 : Int32))), .unset] [(.int (0 : Int32))]))
        refine own_go (fun _ hr => XS.ifNo X112.here hx rfl (hb hby at_198) rfl ((if0 _ _).trans (teq (by decide)).2) (XS.iconst X112.here hx rfl (hb hby at_201) (XS.goto X112.here hx rfl (pc0 := 202) (pc' := 206) rfl (hb hby at_202) (by decide) (by decide) hr))) ?_
        show own_Go p e below _ (T112.setTop (mkF m 206 #[.val (.int x0), .val (.int x1), .val (.int x2), .val (.int x3), .val (.int x4), .val (.int ((x4 &&& (3 : Int32)) % (3 : Int32))), .val (.int (0 : Int32)), .val (.int ((((x4.toUInt32 >>> ((3 : Int32) &&& 31).toUInt32).toInt32) &&& (3 : Int32)) % (3 : Int32))), .val (.ref b6_0), .val (.ref b10_0), .val (.int x3), .val (.ref b16), .val (.ref b23), .val (.int (((x4.toUInt32 >>> ((6 : Int32) &&& 31).toUInt32).toInt32) &&& (3 : Int32))), .unset] [(.int (1 : Int32))]))
        have hk115 := (Nat.le_trans (Nat.le_trans (Nat.le_trans (Nat.le_trans (Nat.le_refl _) E16.1) K21.1) E23.1) K28.1)
        have A116 := A14.trans Ac10
        have A117 := A116.trans (CHr.ext E16 A116.1)
        have sf119 := (Safe.ext E16 A116.1 (Safe.new (Nat.le_of_eq g16.symm)))
        have A118 := A117.trans (CHr.keep K21 (sfS sf119 sf0) A117.1)
        have A120 := A118.trans (CHr.ext E23 A118.1)
        have sf122 := (Safe.ext E23 A118.1 (Safe.new (Nat.le_of_eq g23.symm)))
        have A121 := A120.trans (CHr.keep K28 (sfS sf122 sf0) A120.1)
        exact own_retNW X112 hx hlk Bd.returns hS hk115 hZ hEL hh e112 A121 (t := .boolean) (by simp) (hb hby at_206) (by decide) (by decide) ⟨rfl, N112⟩
      refine own_go (fun _ hr => XS.icmpYes X28.here hx rfl (pc0 := 189) (pc' := 207) rfl (hb hby at_189) rfl (feq c111).2 (by decide) (by decide) hr) ?_
      show own_Go p e below _ (T28.setTop (mkF m 207 #[.val (.int x0), .val (.int x1), .val (.int x2), .val (.int x3), .val (.int x4), .val (.int ((x4 &&& (3 : Int32)) % (3 : Int32))), .val (.int (0 : Int32)), .val (.int ((((x4.toUInt32 >>> ((3 : Int32) &&& 31).toUInt32).toInt32) &&& (3 : Int32)) % (3 : Int32))), .val (.ref b6_0), .val (.ref b10_0), .val (.int x3), .val (.ref b16), .val (.ref b23), .val (.int (((x4.toUInt32 >>> ((6 : Int32) &&& 31).toUInt32).toInt32) &&& (3 : Int32))), .unset] []))
      refine own_go (fun _ hr => XS.aload X28.here hx rfl (hb hby at_207) rfl rfl (XS.aload X28.here hx rfl (hb hby at_209) rfl rfl hr)) ?_
      show own_Go p e below _ (T28.setTop (mkF m 211 #[.val (.int x0), .val (.int x1), .val (.int x2), .val (.int x3), .val (.int x4), .val (.int ((x4 &&& (3 : Int32)) % (3 : Int32))), .val (.int (0 : Int32)), .val (.int ((((x4.toUInt32 >>> ((3 : Int32) &&& 31).toUInt32).toInt32) &&& (3 : Int32)) % (3 : Int32))), .val (.ref b6_0), .val (.ref b10_0), .val (.int x3), .val (.ref b16), .val (.ref b23), .val (.int (((x4.toUInt32 >>> ((6 : Int32) &&& 31).toUInt32).toInt32) &&& (3 : Int32))), .unset] [(.ref b6_0), (.ref b16)]))
      have f124 := (((((f6_0.keep K10).ext E16).keep K21).ext E23).keep K28)
      have Z125 := (Nat.le_trans Z29 K28.1)
      have f126 := (((A16.keep K21).ext E23).keep K28)
      refine own_cv X28 hx hZ hown (notFace_of_selects (args := #[]) (mvT hZ (hw _ (own_m 40 rfl)))) (hw _ (own_m 37 rfl)) (hw _ (own_m 38 rfl)) (hw _ (own_m 40 rfl)) (hw _ (own_m 39 rfl)) (hw _ (own_m 28 rfl)) (hw _ (own_m 41 rfl)) (by decide) f126 (rm := { frames := 0, cells := 0, slots := 0, locals := 0 }) (rm_equals_22 l Z a0 hw [] b16 b6_0 T28.heap n0 Z125 f124 (Ne.symm (Nat.ne_of_lt (Nat.lt_of_lt_of_le (f6_0.keep K10).lt (Nat.le_of_eq g16.symm))))) (by decide) (W := 0) (by decide) (by decide) (by decide) rfl (by rw [hml]; rfl) (argsL := [(.ref b6_0)]) (lenOf own_pd8 rfl) (rest := []) rfl rfl (Nat.le_of_eq rfl) (hb hby at_211) ?_
      intro _ T123 L123 X123 hQ123
      obtain ⟨rfl, N123q, e123⟩ := hQ123
      have N123 := Fr.app N28 N123q
      show own_Go p e below _ (T123.setTop (mkF m 214 #[.val (.int x0), .val (.int x1), .val (.int x2), .val (.int x3), .val (.int x4), .val (.int ((x4 &&& (3 : Int32)) % (3 : Int32))), .val (.int (0 : Int32)), .val (.int ((((x4.toUInt32 >>> ((3 : Int32) &&& 31).toUInt32).toInt32) &&& (3 : Int32)) % (3 : Int32))), .val (.ref b6_0), .val (.ref b10_0), .val (.int x3), .val (.ref b16), .val (.ref b23), .val (.int (((x4.toUInt32 >>> ((6 : Int32) &&& 31).toUInt32).toInt32) &&& (3 : Int32))), .unset] [(.int (0 : Int32))]))
      refine own_go (fun _ hr => XS.ifNo X123.here hx rfl (hb hby at_214) rfl ((if0 _ _).trans (teq (by decide)).2) (XS.iconst X123.here hx rfl (hb hby at_217) (XS.goto X123.here hx rfl (pc0 := 218) (pc' := 222) rfl (hb hby at_218) (by decide) (by decide) hr))) ?_
      show own_Go p e below _ (T123.setTop (mkF m 222 #[.val (.int x0), .val (.int x1), .val (.int x2), .val (.int x3), .val (.int x4), .val (.int ((x4 &&& (3 : Int32)) % (3 : Int32))), .val (.int (0 : Int32)), .val (.int ((((x4.toUInt32 >>> ((3 : Int32) &&& 31).toUInt32).toInt32) &&& (3 : Int32)) % (3 : Int32))), .val (.ref b6_0), .val (.ref b10_0), .val (.int x3), .val (.ref b16), .val (.ref b23), .val (.int (((x4.toUInt32 >>> ((6 : Int32) &&& 31).toUInt32).toInt32) &&& (3 : Int32))), .unset] [(.int (1 : Int32))]))
      have hk127 := (Nat.le_trans (Nat.le_trans (Nat.le_trans (Nat.le_trans (Nat.le_refl _) E16.1) K21.1) E23.1) K28.1)
      have A128 := A14.trans Ac10
      have A129 := A128.trans (CHr.ext E16 A128.1)
      have sf131 := (Safe.ext E16 A128.1 (Safe.new (Nat.le_of_eq g16.symm)))
      have A130 := A129.trans (CHr.keep K21 (sfS sf131 sf0) A129.1)
      have A132 := A130.trans (CHr.ext E23 A130.1)
      have sf134 := (Safe.ext E23 A130.1 (Safe.new (Nat.le_of_eq g23.symm)))
      have A133 := A132.trans (CHr.keep K28 (sfS sf134 sf0) A132.1)
      exact own_retNW X123 hx hlk Bd.returns hS hk127 hZ hEL hh e123 A133 (t := .boolean) (by simp) (hb hby at_222) (by decide) (by decide) ⟨rfl, N123⟩
    refine own_go (fun _ hr => XS.ifNo X10.here hx rfl (hb hby at_70) rfl ((if0 _ _).trans (feq c15).1) hr) ?_
    show own_Go p e below _ (T10.setTop (mkF m 73 #[.val (.int x0), .val (.int x1), .val (.int x2), .val (.int x3), .val (.int x4), .val (.int ((x4 &&& (3 : Int32)) % (3 : Int32))), .val (.int (0 : Int32)), .val (.int ((((x4.toUInt32 >>> ((3 : Int32) &&& 31).toUInt32).toInt32) &&& (3 : Int32)) % (3 : Int32))), .val (.ref b6_0), .val (.ref b10_0), .unset, .unset, .unset, .unset, .unset] []))
    refine own_go (fun _ hr => XS.iloadN X10.here hx rfl (hb hby at_73) rfl (XS.goto X10.here hx rfl (pc0 := 74) (pc' := 78) rfl (hb hby at_74) (by decide) (by decide) (XS.istore X10.here hx rfl (hb hby at_78) rfl (l' := #[.val (.int x0), .val (.int x1), .val (.int x2), .val (.int x3), .val (.int x4), .val (.int ((x4 &&& (3 : Int32)) % (3 : Int32))), .val (.int (0 : Int32)), .val (.int ((((x4.toUInt32 >>> ((3 : Int32) &&& 31).toUInt32).toInt32) &&& (3 : Int32)) % (3 : Int32))), .val (.ref b6_0), .val (.ref b10_0), .val (.int x2), .unset, .unset, .unset, .unset]) rfl hr))) ?_
    show own_Go p e below _ (T10.setTop (mkF m 80 #[.val (.int x0), .val (.int x1), .val (.int x2), .val (.int x3), .val (.int x4), .val (.int ((x4 &&& (3 : Int32)) % (3 : Int32))), .val (.int (0 : Int32)), .val (.int ((((x4.toUInt32 >>> ((3 : Int32) &&& 31).toUInt32).toInt32) &&& (3 : Int32)) % (3 : Int32))), .val (.ref b6_0), .val (.ref b10_0), .val (.int x2), .unset, .unset, .unset, .unset] []))
    obtain ⟨T135, h135, X135, e135, E135, A135, D135, -, st135⟩ := newO X10 hx hZ hown (hw _ (own_m 26 rfl)) (hw _ (own_m 27 rfl)) (hw _ (own_m 28 rfl)) rfl (g := (mkF m 80 #[.val (.int x0), .val (.int x1), .val (.int x2), .val (.int x3), .val (.int x4), .val (.int ((x4 &&& (3 : Int32)) % (3 : Int32))), .val (.int (0 : Int32)), .val (.int ((((x4.toUInt32 >>> ((3 : Int32) &&& 31).toUInt32).toInt32) &&& (3 : Int32)) % (3 : Int32))), .val (.ref b6_0), .val (.ref b10_0), .val (.int x2), .unset, .unset, .unset, .unset] [])) rfl (hb hby at_80) (by decide) (by decide)
    obtain ⟨b135, g135⟩ : ∃ z, z = T10.heap.size := ⟨_, rfl⟩
    rw [← g135] at A135 D135 st135
    have Z136 := (Nat.le_trans Z12 K10.1)
    have ge137 : n0 ≤ b135 := Nat.le_trans Z136 (Nat.le_of_eq g135.symm)
    refine own_go st135 ?_
    have f138 : Fld Z h135 b135 "com/example/appenddb/appenddb/TopicQueue" "topic" "Ljava/lang/String;" .null := D135 (Or.inr (hw _ (own_m 34 rfl))) (ty := (.object "java/lang/String")) (by decide)
    have f139 : Fld Z h135 b135 "com/example/appenddb/appenddb/TopicQueue" "queueId" "I" (.int (0 : Int32)) := D135 (Or.inr (hw _ (own_m 36 rfl))) (ty := .int) (by decide)
    show own_Go p e below _ (T135.setTop (mkF m 83 #[.val (.int x0), .val (.int x1), .val (.int x2), .val (.int x3), .val (.int x4), .val (.int ((x4 &&& (3 : Int32)) % (3 : Int32))), .val (.int (0 : Int32)), .val (.int ((((x4.toUInt32 >>> ((3 : Int32) &&& 31).toUInt32).toInt32) &&& (3 : Int32)) % (3 : Int32))), .val (.ref b6_0), .val (.ref b10_0), .val (.int x2), .unset, .unset, .unset, .unset] [(.ref b135)]))
    refine own_go (fun _ hr => XS.dup X135.here hx rfl (hb hby at_83) rfl rfl (XS.aload X135.here hx rfl (hb hby at_84) rfl rfl (XS.iloadN X135.here hx rfl (hb hby at_86) rfl hr))) ?_
    show own_Go p e below _ (T135.setTop (mkF m 87 #[.val (.int x0), .val (.int x1), .val (.int x2), .val (.int x3), .val (.int x4), .val (.int ((x4 &&& (3 : Int32)) % (3 : Int32))), .val (.int (0 : Int32)), .val (.int ((((x4.toUInt32 >>> ((3 : Int32) &&& 31).toUInt32).toInt32) &&& (3 : Int32)) % (3 : Int32))), .val (.ref b6_0), .val (.ref b10_0), .val (.int x2), .unset, .unset, .unset, .unset] [(.int x2), (.ref b6_0), (.ref b135), (.ref b135)]))
    have Z141 := (Nat.le_trans Z136 E135.1)
    refine own_cp X135 hx hZ hown rfl (hw _ (own_m 29 rfl)) (hw _ (own_m 30 rfl)) (hw _ (own_m 28 rfl)) (hw _ (own_m 31 rfl)) (by decide) (rm := { frames := 1, cells := 0, slots := 0, locals := 12 }) (rm_init_14 l Z a0 hw [] b135 b6_0 x2 h135 n0 Z141 A135 f138 f139 ge137) (by decide) (W := 1) (by decide) (by decide) (by decide) e135 (by rw [hml]; rfl) (argsL := [(.ref b6_0), (.int x2)]) (lenOf own_pd6 rfl) (rest := [(.ref b135)]) rfl rfl (Nat.le_of_eq rfl) (hb hby at_87) ?_
    intro _ T140 L140 X140 hQ140
    obtain ⟨rfl, N140q, K140, f140_0, f140_1⟩ := hQ140
    have N140 := Fr.app N10 N140q
    show own_Go p e below _ (T140.setTop (mkF m 90 #[.val (.int x0), .val (.int x1), .val (.int x2), .val (.int x3), .val (.int x4), .val (.int ((x4 &&& (3 : Int32)) % (3 : Int32))), .val (.int (0 : Int32)), .val (.int ((((x4.toUInt32 >>> ((3 : Int32) &&& 31).toUInt32).toInt32) &&& (3 : Int32)) % (3 : Int32))), .val (.ref b6_0), .val (.ref b10_0), .val (.int x2), .unset, .unset, .unset, .unset] [(.ref b135)]))
    refine own_go (fun _ hr => XS.astore X140.here hx rfl (hb hby at_90) rfl rfl (l' := #[.val (.int x0), .val (.int x1), .val (.int x2), .val (.int x3), .val (.int x4), .val (.int ((x4 &&& (3 : Int32)) % (3 : Int32))), .val (.int (0 : Int32)), .val (.int ((((x4.toUInt32 >>> ((3 : Int32) &&& 31).toUInt32).toInt32) &&& (3 : Int32)) % (3 : Int32))), .val (.ref b6_0), .val (.ref b10_0), .val (.int x2), .val (.ref b135), .unset, .unset, .unset]) rfl hr) ?_
    show own_Go p e below _ (T140.setTop (mkF m 92 #[.val (.int x0), .val (.int x1), .val (.int x2), .val (.int x3), .val (.int x4), .val (.int ((x4 &&& (3 : Int32)) % (3 : Int32))), .val (.int (0 : Int32)), .val (.int ((((x4.toUInt32 >>> ((3 : Int32) &&& 31).toUInt32).toInt32) &&& (3 : Int32)) % (3 : Int32))), .val (.ref b6_0), .val (.ref b10_0), .val (.int x2), .val (.ref b135), .unset, .unset, .unset] []))
    obtain ⟨T142, h142, X142, e142, E142, A142, D142, -, st142⟩ := newO X140 hx hZ hown (hw _ (own_m 26 rfl)) (hw _ (own_m 27 rfl)) (hw _ (own_m 28 rfl)) rfl (g := (mkF m 92 #[.val (.int x0), .val (.int x1), .val (.int x2), .val (.int x3), .val (.int x4), .val (.int ((x4 &&& (3 : Int32)) % (3 : Int32))), .val (.int (0 : Int32)), .val (.int ((((x4.toUInt32 >>> ((3 : Int32) &&& 31).toUInt32).toInt32) &&& (3 : Int32)) % (3 : Int32))), .val (.ref b6_0), .val (.ref b10_0), .val (.int x2), .val (.ref b135), .unset, .unset, .unset] [])) rfl (hb hby at_92) (by decide) (by decide)
    obtain ⟨b142, g142⟩ : ∃ z, z = T140.heap.size := ⟨_, rfl⟩
    rw [← g142] at A142 D142 st142
    have Z143 := (Nat.le_trans Z141 K140.1)
    have ge144 : n0 ≤ b142 := Nat.le_trans Z143 (Nat.le_of_eq g142.symm)
    refine own_go st142 ?_
    have f145 : Fld Z h142 b142 "com/example/appenddb/appenddb/TopicQueue" "topic" "Ljava/lang/String;" .null := D142 (Or.inr (hw _ (own_m 34 rfl))) (ty := (.object "java/lang/String")) (by decide)
    have f146 : Fld Z h142 b142 "com/example/appenddb/appenddb/TopicQueue" "queueId" "I" (.int (0 : Int32)) := D142 (Or.inr (hw _ (own_m 36 rfl))) (ty := .int) (by decide)
    show own_Go p e below _ (T142.setTop (mkF m 95 #[.val (.int x0), .val (.int x1), .val (.int x2), .val (.int x3), .val (.int x4), .val (.int ((x4 &&& (3 : Int32)) % (3 : Int32))), .val (.int (0 : Int32)), .val (.int ((((x4.toUInt32 >>> ((3 : Int32) &&& 31).toUInt32).toInt32) &&& (3 : Int32)) % (3 : Int32))), .val (.ref b6_0), .val (.ref b10_0), .val (.int x2), .val (.ref b135), .unset, .unset, .unset] [(.ref b142)]))
    refine own_go (fun _ hr => XS.dup X142.here hx rfl (hb hby at_95) rfl rfl (XS.aload X142.here hx rfl (hb hby at_96) rfl rfl (XS.iload X142.here hx rfl (hb hby at_98) rfl hr))) ?_
    show own_Go p e below _ (T142.setTop (mkF m 100 #[.val (.int x0), .val (.int x1), .val (.int x2), .val (.int x3), .val (.int x4), .val (.int ((x4 &&& (3 : Int32)) % (3 : Int32))), .val (.int (0 : Int32)), .val (.int ((((x4.toUInt32 >>> ((3 : Int32) &&& 31).toUInt32).toInt32) &&& (3 : Int32)) % (3 : Int32))), .val (.ref b6_0), .val (.ref b10_0), .val (.int x2), .val (.ref b135), .unset, .unset, .unset] [(.int x2), (.ref b10_0), (.ref b142), (.ref b142)]))
    have Z148 := (Nat.le_trans Z143 E142.1)
    refine own_cp X142 hx hZ hown rfl (hw _ (own_m 29 rfl)) (hw _ (own_m 30 rfl)) (hw _ (own_m 28 rfl)) (hw _ (own_m 31 rfl)) (by decide) (rm := { frames := 1, cells := 0, slots := 0, locals := 12 }) (rm_init_14 l Z a0 hw [] b142 b10_0 x2 h142 n0 Z148 A142 f145 f146 ge144) (by decide) (W := 1) (by decide) (by decide) (by decide) e142 (by rw [hml]; rfl) (argsL := [(.ref b10_0), (.int x2)]) (lenOf own_pd6 rfl) (rest := [(.ref b142)]) rfl rfl (Nat.le_of_eq rfl) (hb hby at_100) ?_
    intro _ T147 L147 X147 hQ147
    obtain ⟨rfl, N147q, K147, f147_0, f147_1⟩ := hQ147
    have N147 := Fr.app N140 N147q
    show own_Go p e below _ (T147.setTop (mkF m 103 #[.val (.int x0), .val (.int x1), .val (.int x2), .val (.int x3), .val (.int x4), .val (.int ((x4 &&& (3 : Int32)) % (3 : Int32))), .val (.int (0 : Int32)), .val (.int ((((x4.toUInt32 >>> ((3 : Int32) &&& 31).toUInt32).toInt32) &&& (3 : Int32)) % (3 : Int32))), .val (.ref b6_0), .val (.ref b10_0), .val (.int x2), .val (.ref b135), .unset, .unset, .unset] [(.ref b142)]))
    refine own_go (fun _ hr => XS.astore X147.here hx rfl (hb hby at_103) rfl rfl (l' := #[.val (.int x0), .val (.int x1), .val (.int x2), .val (.int x3), .val (.int x4), .val (.int ((x4 &&& (3 : Int32)) % (3 : Int32))), .val (.int (0 : Int32)), .val (.int ((((x4.toUInt32 >>> ((3 : Int32) &&& 31).toUInt32).toInt32) &&& (3 : Int32)) % (3 : Int32))), .val (.ref b6_0), .val (.ref b10_0), .val (.int x2), .val (.ref b135), .val (.ref b142), .unset, .unset]) rfl (XS.iload X147.here hx rfl (hb hby at_105) rfl (XS.bipush X147.here hx rfl (hb hby at_107) (XS.iushr X147.here hx rfl (hb hby at_109) rfl (XS.iconst X147.here hx rfl (hb hby at_110) (XS.iand X147.here hx rfl (hb hby at_111) rfl (XS.istore X147.here hx rfl (hb hby at_112) rfl (l' := #[.val (.int x0), .val (.int x1), .val (.int x2), .val (.int x3), .val (.int x4), .val (.int ((x4 &&& (3 : Int32)) % (3 : Int32))), .val (.int (0 : Int32)), .val (.int ((((x4.toUInt32 >>> ((3 : Int32) &&& 31).toUInt32).toInt32) &&& (3 : Int32)) % (3 : Int32))), .val (.ref b6_0), .val (.ref b10_0), .val (.int x2), .val (.ref b135), .val (.ref b142), .val (.int (((x4.toUInt32 >>> ((6 : Int32) &&& 31).toUInt32).toInt32) &&& (3 : Int32))), .unset]) rfl (XS.iload X147.here hx rfl (hb hby at_114) rfl hr)))))))) ?_
    show own_Go p e below _ (T147.setTop (mkF m 116 #[.val (.int x0), .val (.int x1), .val (.int x2), .val (.int x3), .val (.int x4), .val (.int ((x4 &&& (3 : Int32)) % (3 : Int32))), .val (.int (0 : Int32)), .val (.int ((((x4.toUInt32 >>> ((3 : Int32) &&& 31).toUInt32).toInt32) &&& (3 : Int32)) % (3 : Int32))), .val (.ref b6_0), .val (.ref b10_0), .val (.int x2), .val (.ref b135), .val (.ref b142), .val (.int (((x4.toUInt32 >>> ((6 : Int32) &&& 31).toUInt32).toInt32) &&& (3 : Int32))), .unset] [(.int (((x4.toUInt32 >>> ((6 : Int32) &&& 31).toUInt32).toInt32) &&& (3 : Int32)))]))
    rcases Classical.em ((((x4.toUInt32 >>> ((6 : Int32) &&& 31).toUInt32).toInt32) &&& (3 : Int32)) = (0 : Int32)) with c149 | c149
    · skip
      refine own_go (fun _ hr => XS.ifNo X147.here hx rfl (hb hby at_116) rfl ((if0 _ _).trans (teq c149).2) hr) ?_
      show own_Go p e below _ (T147.setTop (mkF m 119 #[.val (.int x0), .val (.int x1), .val (.int x2), .val (.int x3), .val (.int x4), .val (.int ((x4 &&& (3 : Int32)) % (3 : Int32))), .val (.int (0 : Int32)), .val (.int ((((x4.toUInt32 >>> ((3 : Int32) &&& 31).toUInt32).toInt32) &&& (3 : Int32)) % (3 : Int32))), .val (.ref b6_0), .val (.ref b10_0), .val (.int x2), .val (.ref b135), .val (.ref b142), .val (.int (((x4.toUInt32 >>> ((6 : Int32) &&& 31).toUInt32).toInt32) &&& (3 : Int32))), .unset] []))
      refine own_go (fun _ hr => XS.iloadN X147.here hx rfl (hb hby at_119) rfl (XS.iload X147.here hx rfl (hb hby at_120) rfl (XS.icmpNo X147.here hx rfl (hb hby at_122) rfl (teq rfl).2 (XS.aload X147.here hx rfl (hb hby at_125) rfl rfl (XS.aload X147.here hx rfl (hb hby at_127) rfl rfl hr))))) ?_
      show own_Go p e below _ (T147.setTop (mkF m 129 #[.val (.int x0), .val (.int x1), .val (.int x2), .val (.int x3), .val (.int x4), .val (.int ((x4 &&& (3 : Int32)) % (3 : Int32))), .val (.int (0 : Int32)), .val (.int ((((x4.toUInt32 >>> ((3 : Int32) &&& 31).toUInt32).toInt32) &&& (3 : Int32)) % (3 : Int32))), .val (.ref b6_0), .val (.ref b10_0), .val (.int x2), .val (.ref b135), .val (.ref b142), .val (.int (((x4.toUInt32 >>> ((6 : Int32) &&& 31).toUInt32).toInt32) &&& (3 : Int32))), .unset] [(.ref b10_0), (.ref b6_0)]))
      rcases Classical.em ((own_leq x0 ((x4 &&& (3 : Int32)) % (3 : Int32)) x1 ((((x4.toUInt32 >>> ((3 : Int32) &&& 31).toUInt32).toInt32) &&& (3 : Int32)) % (3 : Int32))) = (0 : Int32)) with c150 | c150
      · skip
        have f152 := ((((f10_0.ext E135).keep K140).ext E142).keep K147)
        have f153 := (own_sta_keep ((own_sta_keep ((own_sta_keep f11 K10 all0).ext E135) K140 (allS (own_ns_exa A135) all0)).ext E142) K147 (allS (own_ns_exa A142) all0))
        have f154 := (((((f6_1.keep K10 nin0).ext E135).keep K140 (ninS (Nat.ne_of_lt (Nat.lt_of_lt_of_le (f6_0.keep K10).lt (Nat.le_of_eq g135.symm))) nin0)).ext E142).keep K147 (ninS (Nat.ne_of_lt (Nat.lt_of_lt_of_le (((f6_0.keep K10).ext E135).keep K140).lt (Nat.le_of_eq g142.symm))) nin0))
        have f155 := ((((f10_1.ext E135).keep K140 (ninS (Nat.ne_of_lt (Nat.lt_of_lt_of_le f10_0.lt (Nat.le_of_eq g135.symm))) nin0)).ext E142).keep K147 (ninS (Nat.ne_of_lt (Nat.lt_of_lt_of_le ((f10_0.ext E135).keep K140).lt (Nat.le_of_eq g142.symm))) nin0))
        have f156 := (((((f6_2.keep K10 nin0).ext E135).keep K140 (ninS (Nat.ne_of_lt (Nat.lt_of_lt_of_le (f6_0.keep K10).lt (Nat.le_of_eq g135.symm))) nin0)).ext E142).keep K147 (ninS (Nat.ne_of_lt (Nat.lt_of_lt_of_le (((f6_0.keep K10).ext E135).keep K140).lt (Nat.le_of_eq g142.symm))) nin0))
        have f157 := ((((f10_2.ext E135).keep K140 (ninS (Nat.ne_of_lt (Nat.lt_of_lt_of_le f10_0.lt (Nat.le_of_eq g135.symm))) nin0)).ext E142).keep K147 (ninS (Nat.ne_of_lt (Nat.lt_of_lt_of_le ((f10_0.ext E135).keep K140).lt (Nat.le_of_eq g142.symm))) nin0))
        have f158 := (((((f6_3.keep K10 nin0).ext E135).keep K140 (ninS (Nat.ne_of_lt (Nat.lt_of_lt_of_le (f6_3.keep K10 nin0).lt (Nat.le_of_eq g135.symm))) nin0)).ext E142).keep K147 (ninS (Nat.ne_of_lt (Nat.lt_of_lt_of_le (((f6_3.keep K10 nin0).ext E135).keep K140 (ninS (Nat.ne_of_lt (Nat.lt_of_lt_of_le (f6_3.keep K10 nin0).lt (Nat.le_of_eq g135.symm))) nin0)).lt (Nat.le_of_eq g142.symm))) nin0))
        have f159 := ((((f10_3.ext E135).keep K140 (ninS (Nat.ne_of_lt (Nat.lt_of_lt_of_le f10_3.lt (Nat.le_of_eq g135.symm))) nin0)).ext E142).keep K147 (ninS (Nat.ne_of_lt (Nat.lt_of_lt_of_le ((f10_3.ext E135).keep K140 (ninS (Nat.ne_of_lt (Nat.lt_of_lt_of_le f10_3.lt (Nat.le_of_eq g135.symm))) nin0)).lt (Nat.le_of_eq g142.symm))) nin0))
        have Z160 := (Nat.le_trans Z148 K147.1)
        have f161 := (((((f6_0.keep K10).ext E135).keep K140).ext E142).keep K147)
        refine own_cv X147 hx hZ hown (notFace_of_selects (args := #[]) (mvT hZ (hw _ (own_m 58 rfl)))) (hw _ (own_m 55 rfl)) (hw _ (own_m 56 rfl)) (hw _ (own_m 58 rfl)) (hw _ (own_m 57 rfl)) (hw _ (own_m 6 rfl)) (hw _ (own_m 59 rfl)) (by decide) f161 (rm := { frames := 1, cells := 0, slots := 0, locals := 14 }) (rm_equals_15 l Z a0 hw [] b6_0 b10_0 i_COMPACT_STRINGS b6_1 b10_1 ((x4 &&& (3 : Int32)) % (3 : Int32)) x0 kb6_0 ((((x4.toUInt32 >>> ((3 : Int32) &&& 31).toUInt32).toInt32) &&& (3 : Int32)) % (3 : Int32)) x1 kb10_0 T147.heap n0 Z160 f152 f153 f154 f155 f156 f157 f158 f159 (Nat.ne_of_lt (Nat.lt_of_lt_of_le f6_0.lt sz10_0)) hs_COMPACT_STRINGS c5 c4 c9 c8 c150) (by decide) (W := 0) (by decide) (by decide) (by decide) rfl (by rw [hml]; rfl) (argsL := [(.ref b10_0)]) (lenOf own_pd8 rfl) (rest := []) rfl rfl (Nat.le_of_eq rfl) (hb hby at_129) ?_
        intro _ T151 L151 X151 hQ151
        obtain ⟨rfl, N151q, e151⟩ := hQ151
        have N151 := Fr.app N147 N151q
        show own_Go p e below _ (T151.setTop (mkF m 132 #[.val (.int x0), .val (.int x1), .val (.int x2), .val (.int x3), .val (.int x4), .val (.int ((x4 &&& (3 : Int32)) % (3 : Int32))), .val (.int (0 : Int32)), .val (.int ((((x4.toUInt32 >>> ((3 : Int32) &&& 31).toUInt32).toInt32) &&& (3 : Int32)) % (3 : Int32))), .val (.ref b6_0), .val (.ref b10_0), .val (.int x2), .val (.ref b135), .val (.ref b142), .val (.int (((x4.toUInt32 >>> ((6 : Int32) &&& 31).toUInt32).toInt32) &&& (3 : Int32))), .unset] [(.int (0 : Int32))]))
        refine own_go (fun _ hr => XS.ifYes X151.here hx rfl (pc0 := 132) (pc' := 139) rfl (hb hby at_132) rfl ((if0 _ _).trans (teq (by decide)).1) (by decide) (by decide) (XS.iconst X151.here hx rfl (hb hby at_139) (XS.istore X151.here hx rfl (hb hby at_140) rfl (l' := #[.val (.int x0), .val (.int x1), .val (.int x2), .val (.int x3), .val (.int x4), .val (.int ((x4 &&& (3 : Int32)) % (3 : Int32))), .val (.int (0 : Int32)), .val (.int ((((x4.toUInt32 >>> ((3 : Int32) &&& 31).toUInt32).toInt32) &&& (3 : Int32)) % (3 : Int32))), .val (.ref b6_0), .val (.ref b10_0), .val (.int x2), .val (.ref b135), .val (.ref b142), .val (.int (((x4.toUInt32 >>> ((6 : Int32) &&& 31).toUInt32).toInt32) &&& (3 : Int32))), .val (.int (0 : Int32))]) rfl (XS.aload X151.here hx rfl (hb hby at_142) rfl rfl (XS.aload X151.here hx rfl (hb hby at_144) rfl rfl hr))))) ?_
        show own_Go p e below _ (T151.setTop (mkF m 146 #[.val (.int x0), .val (.int x1), .val (.int x2), .val (.int x3), .val (.int x4), .val (.int ((x4 &&& (3 : Int32)) % (3 : Int32))), .val (.int (0 : Int32)), .val (.int ((((x4.toUInt32 >>> ((3 : Int32) &&& 31).toUInt32).toInt32) &&& (3 : Int32)) % (3 : Int32))), .val (.ref b6_0), .val (.ref b10_0), .val (.int x2), .val (.ref b135), .val (.ref b142), .val (.int (((x4.toUInt32 >>> ((6 : Int32) &&& 31).toUInt32).toInt32) &&& (3 : Int32))), .val (.int (0 : Int32))] [(.ref b142), (.ref b135)]))
        have f163 := (A142.keep K147)
        have f164 := ((f140_0.ext E142).keep K147 (ninS (Nat.ne_of_lt (Nat.lt_of_lt_of_le (A135.keep K140).lt (Nat.le_of_eq g142.symm))) nin0))
        have f165 := ((f140_1.ext E142).keep K147 (ninS (Nat.ne_of_lt (Nat.lt_of_lt_of_le (A135.keep K140).lt (Nat.le_of_eq g142.symm))) nin0))
        have f166 := (((A135.keep K140).ext E142).keep K147)
        refine own_cv X151 hx hZ hown (notFace_of_selects (args := #[]) (mvT hZ (hw _ (own_m 40 rfl)))) (hw _ (own_m 37 rfl)) (hw _ (own_m 38 rfl)) (hw _ (own_m 40 rfl)) (hw _ (own_m 39 rfl)) (hw _ (own_m 28 rfl)) (hw _ (own_m 41 rfl)) (by decide) f166 (rm := { frames := 2, cells := 0, slots := 0, locals := 28 }) (rm_equals_23 l Z a0 hw [] b135 b142 x2 b6_0 b10_0 i_COMPACT_STRINGS b6_1 b10_1 ((x4 &&& (3 : Int32)) % (3 : Int32)) x0 kb6_0 ((((x4.toUInt32 >>> ((3 : Int32) &&& 31).toUInt32).toInt32) &&& (3 : Int32)) % (3 : Int32)) x1 kb10_0 T147.heap n0 Z160 f163 f164 f147_0 f165 f147_1 f152 f153 f154 f155 f156 f157 f158 f159 f161 (Nat.ne_of_lt (Nat.lt_of_lt_of_le (A135.keep K140).lt (Nat.le_of_eq g142.symm))) (Nat.ne_of_lt (Nat.lt_of_lt_of_le f6_0.lt sz10_0)) hs_COMPACT_STRINGS c5 c4 c9 c8 c150) (by decide) (W := 0) (by decide) (by decide) (by decide) e151 (by rw [hml]; rfl) (argsL := [(.ref b142)]) (lenOf own_pd8 rfl) (rest := []) rfl rfl (Nat.le_of_eq rfl) (hb hby at_146) ?_
        intro _ T162 L162 X162 hQ162
        obtain ⟨rfl, N162q, e162⟩ := hQ162
        have N162 := Fr.app N151 N162q
        show own_Go p e below _ (T162.setTop (mkF m 149 #[.val (.int x0), .val (.int x1), .val (.int x2), .val (.int x3), .val (.int x4), .val (.int ((x4 &&& (3 : Int32)) % (3 : Int32))), .val (.int (0 : Int32)), .val (.int ((((x4.toUInt32 >>> ((3 : Int32) &&& 31).toUInt32).toInt32) &&& (3 : Int32)) % (3 : Int32))), .val (.ref b6_0), .val (.ref b10_0), .val (.int x2), .val (.ref b135), .val (.ref b142), .val (.int (((x4.toUInt32 >>> ((6 : Int32) &&& 31).toUInt32).toInt32) &&& (3 : Int32))), .val (.int (0 : Int32))] [(.int (0 : Int32))]))
        refine own_go (fun _ hr => XS.iload X162.here hx rfl (hb hby at_149) rfl (XS.icmpNo X162.here hx rfl (hb hby at_151) rfl (teq (by decide)).2 (XS.aload X162.here hx rfl (hb hby at_154) rfl rfl (XS.aload X162.here hx rfl (hb hby at_156) rfl rfl hr)))) ?_
        show own_Go p e below _ (T162.setTop (mkF m 158 #[.val (.int x0), .val (.int x1), .val (.int x2), .val (.int x3), .val (.int x4), .val (.int ((x4 &&& (3 : Int32)) % (3 : Int32))), .val (.int (0 : Int32)), .val (.int ((((x4.toUInt32 >>> ((3 : Int32) &&& 31).toUInt32).toInt32) &&& (3 : Int32)) % (3 : Int32))), .val (.ref b6_0), .val (.ref b10_0), .val (.int x2), .val (.ref b135), .val (.ref b142), .val (.int (((x4.toUInt32 >>> ((6 : Int32) &&& 31).toUInt32).toInt32) &&& (3 : Int32))), .val (.int (0 : Int32))] [(.ref b135), (.ref b142)]))
        have c167 : (own_leq x1 ((((x4.toUInt32 >>> ((3 : Int32) &&& 31).toUInt32).toInt32) &&& (3 : Int32)) % (3 : Int32)) x0 ((x4 &&& (3 : Int32)) % (3 : Int32))) = (0 : Int32) := by rw [own_leq_comm]; exact c150
        refine own_cv X162 hx hZ hown (notFace_of_selects (args := #[]) (mvT hZ (hw _ (own_m 40 rfl)))) (hw _ (own_m 37 rfl)) (hw _ (own_m 38 rfl)) (hw _ (own_m 40 rfl)) (hw _ (own_m 39 rfl)) (hw _ (own_m 28 rfl)) (hw _ (own_m 41 rfl)) (by decide) f163 (rm := { frames := 2, cells := 0, slots := 0, locals := 28 }) (rm_equals_23 l Z a0 hw [] b142 b135 x2 b10_0 b6_0 i_COMPACT_STRINGS b10_1 b6_1 ((((x4.toUInt32 >>> ((3 : Int32) &&& 31).toUInt32).toInt32) &&& (3 : Int32)) % (3 : Int32)) x1 kb10_0 ((x4 &&& (3 : Int32)) % (3 : Int32)) x0 kb6_0 T147.heap n0 Z160 f166 f147_0 f164 f147_1 f165 f161 f153 f155 f154 f157 f156 f159 f158 f152 (Ne.symm (Nat.ne_of_lt (Nat.lt_of_lt_of_le (A135.keep K140).lt (Nat.le_of_eq g142.symm)))) (Ne.symm (Nat.ne_of_lt (Nat.lt_of_lt_of_le f6_0.lt sz10_0))) hs_COMPACT_STRINGS c9 c8 c5 c4 c167) (by decide) (W := 0) (by decide) (by decide) (by decide) e162 (by rw [hml]; rfl) (argsL := [(.ref b135)]) (lenOf own_pd8 rfl) (rest := []) rfl rfl (Nat.le_of_eq rfl) (hb hby at_158) ?_
        intro _ T168 L168 X168 hQ168
        obtain ⟨rfl, N168q, e168⟩ := hQ168
        have N168 := Fr.app N162 N168q
        show own_Go p e below _ (T168.setTop (mkF m 161 #[.val (.int x0), .val (.int x1), .val (.int x2), .val (.int x3), .val (.int x4), .val (.int ((x4 &&& (3 : Int32)) % (3 : Int32))), .val (.int (0 : Int32)), .val (.int ((((x4.toUInt32 >>> ((3 : Int32) &&& 31).toUInt32).toInt32) &&& (3 : Int32)) % (3 : Int32))), .val (.ref b6_0), .val (.ref b10_0), .val (.int x2), .val (.ref b135), .val (.ref b142), .val (.int (((x4.toUInt32 >>> ((6 : Int32) &&& 31).toUInt32).toInt32) &&& (3 : Int32))), .val (.int (0 : Int32))] [(.int (0 : Int32))]))
        refine own_go (fun _ hr => XS.iload X168.here hx rfl (hb hby at_161) rfl (XS.icmpNo X168.here hx rfl (hb hby at_163) rfl (teq (by decide)).2 (XS.iconst X168.here hx rfl (hb hby at_166) (XS.goto X168.here hx rfl (pc0 := 167) (pc' := 171) rfl (hb hby at_167) (by decide) (by decide) hr)))) ?_
        show own_Go p e below _ (T168.setTop (mkF m 171 #[.val (.int x0), .val (.int x1), .val (.int x2), .val (.int x3), .val (.int x4), .val (.int ((x4 &&& (3 : Int32)) % (3 : Int32))), .val (.int (0 : Int32)), .val (.int ((((x4.toUInt32 >>> ((3 : Int32) &&& 31).toUInt32).toInt32) &&& (3 : Int32)) % (3 : Int32))), .val (.ref b6_0), .val (.ref b10_0), .val (.int x2), .val (.ref b135), .val (.ref b142), .val (.int (((x4.toUInt32 >>> ((6 : Int32) &&& 31).toUInt32).toInt32) &&& (3 : Int32))), .val (.int (0 : Int32))] [(.int (1 : Int32))]))
        have hk169 := (Nat.le_trans (Nat.le_trans (Nat.le_trans (Nat.le_trans (Nat.le_refl _) E135.1) K140.1) E142.1) K147.1)
        have A170 := A14.trans Ac10
        have A171 := A170.trans (CHr.ext E135 A170.1)
        have sf173 := (Safe.ext E135 A170.1 (Safe.new (Nat.le_of_eq g135.symm)))
        have A172 := A171.trans (CHr.keep K140 (sfS sf173 sf0) A171.1)
        have A174 := A172.trans (CHr.ext E142 A172.1)
        have sf176 := (Safe.ext E142 A172.1 (Safe.new (Nat.le_of_eq g142.symm)))
        have A175 := A174.trans (CHr.keep K147 (sfS sf176 sf0) A174.1)
        exact own_retNW X168 hx hlk Bd.returns hS hk169 hZ hEL hh e168 A175 (t := .boolean) (by simp) (hb hby at_171) (by decide) (by decide) ⟨rfl, N168⟩
      have f178 := ((((f10_0.ext E135).keep K140).ext E142).keep K147)
      have f179 := (own_sta_keep ((own_sta_keep ((own_sta_keep f11 K10 all0).ext E135) K140 (allS (own_ns_exa A135) all0)).ext E142) K147 (allS (own_ns_exa A142) all0))
      have f180 := (((((f6_1.keep K10 nin0).ext E135).keep K140 (ninS (Nat.ne_of_lt (Nat.lt_of_lt_of_le (f6_0.keep K10).lt (Nat.le_of_eq g135.symm))) nin0)).ext E142).keep K147 (ninS (Nat.ne_of_lt (Nat.lt_of_lt_of_le (((f6_0.keep K10).ext E135).keep K140).lt (Nat.le_of_eq g142.symm))) nin0))
      have f181 := ((((f10_1.ext E135).keep K140 (ninS (Nat.ne_of_lt (Nat.lt_of_lt_of_le f10_0.lt (Nat.le_of_eq g135.symm))) nin0)).ext E142).keep K147 (ninS (Nat.ne_of_lt (Nat.lt_of_lt_of_le ((f10_0.ext E135).keep K140).lt (Nat.le_of_eq g142.symm))) nin0))
      have f182 := (((((f6_2.keep K10 nin0).ext E135).keep K140 (ninS (Nat.ne_of_lt (Nat.lt_of_lt_of_le (f6_0.keep K10).lt (Nat.le_of_eq g135.symm))) nin0)).ext E142).keep K147 (ninS (Nat.ne_of_lt (Nat.lt_of_lt_of_le (((f6_0.keep K10).ext E135).keep K140).lt (Nat.le_of_eq g142.symm))) nin0))
      have f183 := ((((f10_2.ext E135).keep K140 (ninS (Nat.ne_of_lt (Nat.lt_of_lt_of_le f10_0.lt (Nat.le_of_eq g135.symm))) nin0)).ext E142).keep K147 (ninS (Nat.ne_of_lt (Nat.lt_of_lt_of_le ((f10_0.ext E135).keep K140).lt (Nat.le_of_eq g142.symm))) nin0))
      have f184 := (((((f6_3.keep K10 nin0).ext E135).keep K140 (ninS (Nat.ne_of_lt (Nat.lt_of_lt_of_le (f6_3.keep K10 nin0).lt (Nat.le_of_eq g135.symm))) nin0)).ext E142).keep K147 (ninS (Nat.ne_of_lt (Nat.lt_of_lt_of_le (((f6_3.keep K10 nin0).ext E135).keep K140 (ninS (Nat.ne_of_lt (Nat.lt_of_lt_of_le (f6_3.keep K10 nin0).lt (Nat.le_of_eq g135.symm))) nin0)).lt (Nat.le_of_eq g142.symm))) nin0))
      have f185 := ((((f10_3.ext E135).keep K140 (ninS (Nat.ne_of_lt (Nat.lt_of_lt_of_le f10_3.lt (Nat.le_of_eq g135.symm))) nin0)).ext E142).keep K147 (ninS (Nat.ne_of_lt (Nat.lt_of_lt_of_le ((f10_3.ext E135).keep K140 (ninS (Nat.ne_of_lt (Nat.lt_of_lt_of_le f10_3.lt (Nat.le_of_eq g135.symm))) nin0)).lt (Nat.le_of_eq g142.symm))) nin0))
      have Z186 := (Nat.le_trans Z148 K147.1)
      have f187 := (((((f6_0.keep K10).ext E135).keep K140).ext E142).keep K147)
      refine own_cv X147 hx hZ hown (notFace_of_selects (args := #[]) (mvT hZ (hw _ (own_m 58 rfl)))) (hw _ (own_m 55 rfl)) (hw _ (own_m 56 rfl)) (hw _ (own_m 58 rfl)) (hw _ (own_m 57 rfl)) (hw _ (own_m 6 rfl)) (hw _ (own_m 59 rfl)) (by decide) f187 (rm := { frames := 1, cells := 0, slots := 0, locals := 14 }) (rm_equals_17 l Z a0 hw [] b6_0 b10_0 i_COMPACT_STRINGS b6_1 b10_1 ((x4 &&& (3 : Int32)) % (3 : Int32)) x0 kb6_0 ((((x4.toUInt32 >>> ((3 : Int32) &&& 31).toUInt32).toInt32) &&& (3 : Int32)) % (3 : Int32)) x1 kb10_0 T147.heap n0 Z186 f178 f179 f180 f181 f182 f183 f184 f185 (Nat.ne_of_lt (Nat.lt_of_lt_of_le f6_0.lt sz10_0)) hs_COMPACT_STRINGS c5 c4 c9 c8 c150) (by decide) (W := 0) (by decide) (by decide) (by decide) rfl (by rw [hml]; rfl) (argsL := [(.ref b10_0)]) (lenOf own_pd8 rfl) (rest := []) rfl rfl (Nat.le_of_eq rfl) (hb hby at_129) ?_
      intro _ T177 L177 X177 hQ177
      obtain ⟨rfl, N177q, e177⟩ := hQ177
      have N177 := Fr.app N147 N177q
      show own_Go p e below _ (T177.setTop (mkF m 132 #[.val (.int x0), .val (.int x1), .val (.int x2), .val (.int x3), .val (.int x4), .val (.int ((x4 &&& (3 : Int32)) % (3 : Int32))), .val (.int (0 : Int32)), .val (.int ((((x4.toUInt32 >>> ((3 : Int32) &&& 31).toUInt32).toInt32) &&& (3 : Int32)) % (3 : Int32))), .val (.ref b6_0), .val (.ref b10_0), .val (.int x2), .val (.ref b135), .val (.ref b142), .val (.int (((x4.toUInt32 >>> ((6 : Int32) &&& 31).toUInt32).toInt32) &&& (3 : Int32))), .unset] [(.int (1 : Int32))]))
      refine own_go (fun _ hr => XS.ifNo X177.here hx rfl (hb hby at_132) rfl ((if0 _ _).trans (feq (by decide)).1) (XS.iconst X177.here hx rfl (hb hby at_135) (XS.goto X177.here hx rfl (pc0 := 136) (pc' := 140) rfl (hb hby at_136) (by decide) (by decide) (XS.istore X177.here hx rfl (hb hby at_140) rfl (l' := #[.val (.int x0), .val (.int x1), .val (.int x2), .val (.int x3), .val (.int x4), .val (.int ((x4 &&& (3 : Int32)) % (3 : Int32))), .val (.int (0 : Int32)), .val (.int ((((x4.toUInt32 >>> ((3 : Int32) &&& 31).toUInt32).toInt32) &&& (3 : Int32)) % (3 : Int32))), .val (.ref b6_0), .val (.ref b10_0), .val (.int x2), .val (.ref b135), .val (.ref b142), .val (.int (((x4.toUInt32 >>> ((6 : Int32) &&& 31).toUInt32).toInt32) &&& (3 : Int32))), .val (.int (1 : Int32))]) rfl (XS.aload X177.here hx rfl (hb hby at_142) rfl rfl (XS.aload X177.here hx rfl (hb hby at_144) rfl rfl hr)))))) ?_
      show own_Go p e below _ (T177.setTop (mkF m 146 #[.val (.int x0), .val (.int x1), .val (.int x2), .val (.int x3), .val (.int x4), .val (.int ((x4 &&& (3 : Int32)) % (3 : Int32))), .val (.int (0 : Int32)), .val (.int ((((x4.toUInt32 >>> ((3 : Int32) &&& 31).toUInt32).toInt32) &&& (3 : Int32)) % (3 : Int32))), .val (.ref b6_0), .val (.ref b10_0), .val (.int x2), .val (.ref b135), .val (.ref b142), .val (.int (((x4.toUInt32 >>> ((6 : Int32) &&& 31).toUInt32).toInt32) &&& (3 : Int32))), .val (.int (1 : Int32))] [(.ref b142), (.ref b135)]))
      have f189 := (A142.keep K147)
      have f190 := ((f140_0.ext E142).keep K147 (ninS (Nat.ne_of_lt (Nat.lt_of_lt_of_le (A135.keep K140).lt (Nat.le_of_eq g142.symm))) nin0))
      have f191 := ((f140_1.ext E142).keep K147 (ninS (Nat.ne_of_lt (Nat.lt_of_lt_of_le (A135.keep K140).lt (Nat.le_of_eq g142.symm))) nin0))
      have f192 := (((A135.keep K140).ext E142).keep K147)
      refine own_cv X177 hx hZ hown (notFace_of_selects (args := #[]) (mvT hZ (hw _ (own_m 40 rfl)))) (hw _ (own_m 37 rfl)) (hw _ (own_m 38 rfl)) (hw _ (own_m 40 rfl)) (hw _ (own_m 39 rfl)) (hw _ (own_m 28 rfl)) (hw _ (own_m 41 rfl)) (by decide) f192 (rm := { frames := 2, cells := 0, slots := 0, locals := 28 }) (rm_equals_24 l Z a0 hw [] b135 b142 x2 b6_0 b10_0 i_COMPACT_STRINGS b6_1 b10_1 ((x4 &&& (3 : Int32)) % (3 : Int32)) x0 kb6_0 ((((x4.toUInt32 >>> ((3 : Int32) &&& 31).toUInt32).toInt32) &&& (3 : Int32)) % (3 : Int32)) x1 kb10_0 T147.heap n0 Z186 f189 f190 f147_0 f191 f147_1 f178 f179 f180 f181 f182 f183 f184 f185 f187 (Nat.ne_of_lt (Nat.lt_of_lt_of_le (A135.keep K140).lt (Nat.le_of_eq g142.symm))) (Nat.ne_of_lt (Nat.lt_of_lt_of_le f6_0.lt sz10_0)) hs_COMPACT_STRINGS c5 c4 c9 c8 c150) (by decide) (W := 0) (by decide) (by decide) (by decide) e177 (by rw [hml]; rfl) (argsL := [(.ref b142)]) (lenOf own_pd8 rfl) (rest := []) rfl rfl (Nat.le_of_eq rfl) (hb hby at_146) ?_
      intro _ T188 L188 X188 hQ188
      obtain ⟨rfl, N188q, e188⟩ := hQ188
      have N188 := Fr.app N177 N188q
      show own_Go p e below _ (T188.setTop (mkF m 149 #[.val (.int x0), .val (.int x1), .val (.int x2), .val (.int x3), .val (.int x4), .val (.int ((x4 &&& (3 : Int32)) % (3 : Int32))), .val (.int (0 : Int32)), .val (.int ((((x4.toUInt32 >>> ((3 : Int32) &&& 31).toUInt32).toInt32) &&& (3 : Int32)) % (3 : Int32))), .val (.ref b6_0), .val (.ref b10_0), .val (.int x2), .val (.ref b135), .val (.ref b142), .val (.int (((x4.toUInt32 >>> ((6 : Int32) &&& 31).toUInt32).toInt32) &&& (3 : Int32))), .val (.int (1 : Int32))] [(.int (1 : Int32))]))
      refine own_go (fun _ hr => XS.iload X188.here hx rfl (hb hby at_149) rfl (XS.icmpNo X188.here hx rfl (hb hby at_151) rfl (teq (by decide)).2 (XS.aload X188.here hx rfl (hb hby at_154) rfl rfl (XS.aload X188.here hx rfl (hb hby at_156) rfl rfl hr)))) ?_
      show own_Go p e below _ (T188.setTop (mkF m 158 #[.val (.int x0), .val (.int x1), .val (.int x2), .val (.int x3), .val (.int x4), .val (.int ((x4 &&& (3 : Int32)) % (3 : Int32))), .val (.int (0 : Int32)), .val (.int ((((x4.toUInt32 >>> ((3 : Int32) &&& 31).toUInt32).toInt32) &&& (3 : Int32)) % (3 : Int32))), .val (.ref b6_0), .val (.ref b10_0), .val (.int x2), .val (.ref b135), .val (.ref b142), .val (.int (((x4.toUInt32 >>> ((6 : Int32) &&& 31).toUInt32).toInt32) &&& (3 : Int32))), .val (.int (1 : Int32))] [(.ref b135), (.ref b142)]))
      have c193 : ¬ ((own_leq x1 ((((x4.toUInt32 >>> ((3 : Int32) &&& 31).toUInt32).toInt32) &&& (3 : Int32)) % (3 : Int32)) x0 ((x4 &&& (3 : Int32)) % (3 : Int32))) = (0 : Int32)) := by rw [own_leq_comm]; exact c150
      refine own_cv X188 hx hZ hown (notFace_of_selects (args := #[]) (mvT hZ (hw _ (own_m 40 rfl)))) (hw _ (own_m 37 rfl)) (hw _ (own_m 38 rfl)) (hw _ (own_m 40 rfl)) (hw _ (own_m 39 rfl)) (hw _ (own_m 28 rfl)) (hw _ (own_m 41 rfl)) (by decide) f189 (rm := { frames := 2, cells := 0, slots := 0, locals := 28 }) (rm_equals_24 l Z a0 hw [] b142 b135 x2 b10_0 b6_0 i_COMPACT_STRINGS b10_1 b6_1 ((((x4.toUInt32 >>> ((3 : Int32) &&& 31).toUInt32).toInt32) &&& (3 : Int32)) % (3 : Int32)) x1 kb10_0 ((x4 &&& (3 : Int32)) % (3 : Int32)) x0 kb6_0 T147.heap n0 Z186 f192 f147_0 f190 f147_1 f191 f187 f179 f181 f180 f183 f182 f185 f184 f178 (Ne.symm (Nat.ne_of_lt (Nat.lt_of_lt_of_le (A135.keep K140).lt (Nat.le_of_eq g142.symm)))) (Ne.symm (Nat.ne_of_lt (Nat.lt_of_lt_of_le f6_0.lt sz10_0))) hs_COMPACT_STRINGS c9 c8 c5 c4 c193) (by decide) (W := 0) (by decide) (by decide) (by decide) e188 (by rw [hml]; rfl) (argsL := [(.ref b135)]) (lenOf own_pd8 rfl) (rest := []) rfl rfl (Nat.le_of_eq rfl) (hb hby at_158) ?_
      intro _ T194 L194 X194 hQ194
      obtain ⟨rfl, N194q, e194⟩ := hQ194
      have N194 := Fr.app N188 N194q
      show own_Go p e below _ (T194.setTop (mkF m 161 #[.val (.int x0), .val (.int x1), .val (.int x2), .val (.int x3), .val (.int x4), .val (.int ((x4 &&& (3 : Int32)) % (3 : Int32))), .val (.int (0 : Int32)), .val (.int ((((x4.toUInt32 >>> ((3 : Int32) &&& 31).toUInt32).toInt32) &&& (3 : Int32)) % (3 : Int32))), .val (.ref b6_0), .val (.ref b10_0), .val (.int x2), .val (.ref b135), .val (.ref b142), .val (.int (((x4.toUInt32 >>> ((6 : Int32) &&& 31).toUInt32).toInt32) &&& (3 : Int32))), .val (.int (1 : Int32))] [(.int (1 : Int32))]))
      refine own_go (fun _ hr => XS.iload X194.here hx rfl (hb hby at_161) rfl (XS.icmpNo X194.here hx rfl (hb hby at_163) rfl (teq (by decide)).2 (XS.iconst X194.here hx rfl (hb hby at_166) (XS.goto X194.here hx rfl (pc0 := 167) (pc' := 171) rfl (hb hby at_167) (by decide) (by decide) hr)))) ?_
      show own_Go p e below _ (T194.setTop (mkF m 171 #[.val (.int x0), .val (.int x1), .val (.int x2), .val (.int x3), .val (.int x4), .val (.int ((x4 &&& (3 : Int32)) % (3 : Int32))), .val (.int (0 : Int32)), .val (.int ((((x4.toUInt32 >>> ((3 : Int32) &&& 31).toUInt32).toInt32) &&& (3 : Int32)) % (3 : Int32))), .val (.ref b6_0), .val (.ref b10_0), .val (.int x2), .val (.ref b135), .val (.ref b142), .val (.int (((x4.toUInt32 >>> ((6 : Int32) &&& 31).toUInt32).toInt32) &&& (3 : Int32))), .val (.int (1 : Int32))] [(.int (1 : Int32))]))
      have hk195 := (Nat.le_trans (Nat.le_trans (Nat.le_trans (Nat.le_trans (Nat.le_refl _) E135.1) K140.1) E142.1) K147.1)
      have A196 := A14.trans Ac10
      have A197 := A196.trans (CHr.ext E135 A196.1)
      have sf199 := (Safe.ext E135 A196.1 (Safe.new (Nat.le_of_eq g135.symm)))
      have A198 := A197.trans (CHr.keep K140 (sfS sf199 sf0) A197.1)
      have A200 := A198.trans (CHr.ext E142 A198.1)
      have sf202 := (Safe.ext E142 A198.1 (Safe.new (Nat.le_of_eq g142.symm)))
      have A201 := A200.trans (CHr.keep K147 (sfS sf202 sf0) A200.1)
      exact own_retNW X194 hx hlk Bd.returns hS hk195 hZ hEL hh e194 A201 (t := .boolean) (by simp) (hb hby at_171) (by decide) (by decide) ⟨rfl, N194⟩
    refine own_go (fun _ hr => XS.ifYes X147.here hx rfl (pc0 := 116) (pc' := 172) rfl (hb hby at_116) rfl ((if0 _ _).trans (feq c149).2) (by decide) (by decide) hr) ?_
    show own_Go p e below _ (T147.setTop (mkF m 172 #[.val (.int x0), .val (.int x1), .val (.int x2), .val (.int x3), .val (.int x4), .val (.int ((x4 &&& (3 : Int32)) % (3 : Int32))), .val (.int (0 : Int32)), .val (.int ((((x4.toUInt32 >>> ((3 : Int32) &&& 31).toUInt32).toInt32) &&& (3 : Int32)) % (3 : Int32))), .val (.ref b6_0), .val (.ref b10_0), .val (.int x2), .val (.ref b135), .val (.ref b142), .val (.int (((x4.toUInt32 >>> ((6 : Int32) &&& 31).toUInt32).toInt32) &&& (3 : Int32))), .unset] []))
    refine own_go (fun _ hr => XS.iload X147.here hx rfl (hb hby at_172) rfl (XS.iconst X147.here hx rfl (hb hby at_174) hr)) ?_
    show own_Go p e below _ (T147.setTop (mkF m 175 #[.val (.int x0), .val (.int x1), .val (.int x2), .val (.int x3), .val (.int x4), .val (.int ((x4 &&& (3 : Int32)) % (3 : Int32))), .val (.int (0 : Int32)), .val (.int ((((x4.toUInt32 >>> ((3 : Int32) &&& 31).toUInt32).toInt32) &&& (3 : Int32)) % (3 : Int32))), .val (.ref b6_0), .val (.ref b10_0), .val (.int x2), .val (.ref b135), .val (.ref b142), .val (.int (((x4.toUInt32 >>> ((6 : Int32) &&& 31).toUInt32).toInt32) &&& (3 : Int32))), .unset] [(.int (1 : Int32)), (.int (((x4.toUInt32 >>> ((6 : Int32) &&& 31).toUInt32).toInt32) &&& (3 : Int32)))]))
    rcases Classical.em ((((x4.toUInt32 >>> ((6 : Int32) &&& 31).toUInt32).toInt32) &&& (3 : Int32)) = (1 : Int32)) with c203 | c203
    · skip
      refine own_go (fun _ hr => XS.icmpNo X147.here hx rfl (hb hby at_175) rfl (teq c203).2 hr) ?_
      show own_Go p e below _ (T147.setTop (mkF m 178 #[.val (.int x0), .val (.int x1), .val (.int x2), .val (.int x3), .val (.int x4), .val (.int ((x4 &&& (3 : Int32)) % (3 : Int32))), .val (.int (0 : Int32)), .val (.int ((((x4.toUInt32 >>> ((3 : Int32) &&& 31).toUInt32).toInt32) &&& (3 : Int32)) % (3 : Int32))), .val (.ref b6_0), .val (.ref b10_0), .val (.int x2), .val (.ref b135), .val (.ref b142), .val (.int (((x4.toUInt32 >>> ((6 : Int32) &&& 31).toUInt32).toInt32) &&& (3 : Int32))), .unset] []))
      refine own_go (fun _ hr => XS.aload X147.here hx rfl (hb hby at_178) rfl rfl (XS.aload X147.here hx rfl (hb hby at_180) rfl rfl hr)) ?_
      show own_Go p e below _ (T147.setTop (mkF m 182 #[.val (.int x0), .val (.int x1), .val (.int x2), .val (.int x3), .val (.int x4), .val (.int ((x4 &&& (3 : Int32)) % (3 : Int32))), .val (.int (0 : Int32)), .val (.int ((((x4.toUInt32 >>> ((3 : Int32) &&& 31).toUInt32).toInt32) &&& (3 : Int32)) % (3 : Int32))), .val (.ref b6_0), .val (.ref b10_0), .val (.int x2), .val (.ref b135), .val (.ref b142), .val (.int (((x4.toUInt32 >>> ((6 : Int32) &&& 31).toUInt32).toInt32) &&& (3 : Int32))), .unset] [(.ref b135), (.ref b135)]))
      have Z205 := (Nat.le_trans Z148 K147.1)
      have f206 := (((A135.keep K140).ext E142).keep K147)
      refine own_cv X147 hx hZ hown (notFace_of_selects (args := #[]) (mvT hZ (hw _ (own_m 40 rfl)))) (hw _ (own_m 37 rfl)) (hw _ (own_m 38 rfl)) (hw _ (own_m 40 rfl)) (hw _ (own_m 39 rfl)) (hw _ (own_m 28 rfl)) (hw _ (own_m 41 rfl)) (by decide) f206 (rm := { frames := 0, cells := 0, slots := 0, locals := 0 }) (rm_equals_20 l Z a0 hw [] b135 T147.heap n0 Z205 ) (by decide) (W := 0) (by decide) (by decide) (by decide) rfl (by rw [hml]; rfl) (argsL := [(.ref b135)]) (lenOf own_pd8 rfl) (rest := []) rfl rfl (Nat.le_of_eq rfl) (hb hby at_182) ?_
      intro _ T204 L204 X204 hQ204
      obtain ⟨rfl, N204q, e204⟩ := hQ204
      have N204 := Fr.app N147 N204q
      show own_Go p e below _ (T204.setTop (mkF m 185 #[.val (.int x0), .val (.int x1), .val (.int x2), .val (.int x3), .val (.int x4), .val (.int ((x4 &&& (3 : Int32)) % (3 : Int32))), .val (.int (0 : Int32)), .val (.int ((((x4.toUInt32 >>> ((3 : Int32) &&& 31).toUInt32).toInt32) &&& (3 : Int32)) % (3 : Int32))), .val (.ref b6_0), .val (.ref b10_0), .val (.int x2), .val (.ref b135), .val (.ref b142), .val (.int (((x4.toUInt32 >>> ((6 : Int32) &&& 31).toUInt32).toInt32) &&& (3 : Int32))), .unset] [(.int (1 : Int32))]))
      have hk207 := (Nat.le_trans (Nat.le_trans (Nat.le_trans (Nat.le_trans (Nat.le_refl _) E135.1) K140.1) E142.1) K147.1)
      have A208 := A14.trans Ac10
      have A209 := A208.trans (CHr.ext E135 A208.1)
      have sf211 := (Safe.ext E135 A208.1 (Safe.new (Nat.le_of_eq g135.symm)))
      have A210 := A209.trans (CHr.keep K140 (sfS sf211 sf0) A209.1)
      have A212 := A210.trans (CHr.ext E142 A210.1)
      have sf214 := (Safe.ext E142 A210.1 (Safe.new (Nat.le_of_eq g142.symm)))
      have A213 := A212.trans (CHr.keep K147 (sfS sf214 sf0) A212.1)
      exact own_retNW X204 hx hlk Bd.returns hS hk207 hZ hEL hh e204 A213 (t := .boolean) (by simp) (hb hby at_185) (by decide) (by decide) ⟨rfl, N204⟩
    refine own_go (fun _ hr => XS.icmpYes X147.here hx rfl (pc0 := 175) (pc' := 186) rfl (hb hby at_175) rfl (feq c203).2 (by decide) (by decide) hr) ?_
    show own_Go p e below _ (T147.setTop (mkF m 186 #[.val (.int x0), .val (.int x1), .val (.int x2), .val (.int x3), .val (.int x4), .val (.int ((x4 &&& (3 : Int32)) % (3 : Int32))), .val (.int (0 : Int32)), .val (.int ((((x4.toUInt32 >>> ((3 : Int32) &&& 31).toUInt32).toInt32) &&& (3 : Int32)) % (3 : Int32))), .val (.ref b6_0), .val (.ref b10_0), .val (.int x2), .val (.ref b135), .val (.ref b142), .val (.int (((x4.toUInt32 >>> ((6 : Int32) &&& 31).toUInt32).toInt32) &&& (3 : Int32))), .unset] []))
    refine own_go (fun _ hr => XS.iload X147.here hx rfl (hb hby at_186) rfl (XS.iconst X147.here hx rfl (hb hby at_188) hr)) ?_
    show own_Go p e below _ (T147.setTop (mkF m 189 #[.val (.int x0), .val (.int x1), .val (.int x2), .val (.int x3), .val (.int x4), .val (.int ((x4 &&& (3 : Int32)) % (3 : Int32))), .val (.int (0 : Int32)), .val (.int ((((x4.toUInt32 >>> ((3 : Int32) &&& 31).toUInt32).toInt32) &&& (3 : Int32)) % (3 : Int32))), .val (.ref b6_0), .val (.ref b10_0), .val (.int x2), .val (.ref b135), .val (.ref b142), .val (.int (((x4.toUInt32 >>> ((6 : Int32) &&& 31).toUInt32).toInt32) &&& (3 : Int32))), .unset] [(.int (2 : Int32)), (.int (((x4.toUInt32 >>> ((6 : Int32) &&& 31).toUInt32).toInt32) &&& (3 : Int32)))]))
    rcases Classical.em ((((x4.toUInt32 >>> ((6 : Int32) &&& 31).toUInt32).toInt32) &&& (3 : Int32)) = (2 : Int32)) with c215 | c215
    · skip
      refine own_go (fun _ hr => XS.icmpNo X147.here hx rfl (hb hby at_189) rfl (teq c215).2 hr) ?_
      show own_Go p e below _ (T147.setTop (mkF m 192 #[.val (.int x0), .val (.int x1), .val (.int x2), .val (.int x3), .val (.int x4), .val (.int ((x4 &&& (3 : Int32)) % (3 : Int32))), .val (.int (0 : Int32)), .val (.int ((((x4.toUInt32 >>> ((3 : Int32) &&& 31).toUInt32).toInt32) &&& (3 : Int32)) % (3 : Int32))), .val (.ref b6_0), .val (.ref b10_0), .val (.int x2), .val (.ref b135), .val (.ref b142), .val (.int (((x4.toUInt32 >>> ((6 : Int32) &&& 31).toUInt32).toInt32) &&& (3 : Int32))), .unset] []))
      refine own_go (fun _ hr => XS.aload X147.here hx rfl (hb hby at_192) rfl rfl (XS.aconstNull X147.here hx rfl (hb hby at_194) hr)) ?_
      show own_Go p e below _ (T147.setTop (mkF m 195 #[.val (.int x0), .val (.int x1), .val (.int x2), .val (.int x3), .val (.int x4), .val (.int ((x4 &&& (3 : Int32)) % (3 : Int32))), .val (.int (0 : Int32)), .val (.int ((((x4.toUInt32 >>> ((3 : Int32) &&& 31).toUInt32).toInt32) &&& (3 : Int32)) % (3 : Int32))), .val (.ref b6_0), .val (.ref b10_0), .val (.int x2), .val (.ref b135), .val (.ref b142), .val (.int (((x4.toUInt32 >>> ((6 : Int32) &&& 31).toUInt32).toInt32) &&& (3 : Int32))), .unset] [.null, (.ref b135)]))
      have Z217 := (Nat.le_trans Z148 K147.1)
      have f218 := (((A135.keep K140).ext E142).keep K147)
      refine own_cv X147 hx hZ hown (notFace_of_selects (args := #[]) (mvT hZ (hw _ (own_m 40 rfl)))) (hw _ (own_m 37 rfl)) (hw _ (own_m 38 rfl)) (hw _ (own_m 40 rfl)) (hw _ (own_m 39 rfl)) (hw _ (own_m 28 rfl)) (hw _ (own_m 41 rfl)) (by decide) f218 (rm := { frames := 0, cells := 0, slots := 0, locals := 0 }) (rm_equals_21 l Z a0 hw [] b135 T147.heap n0 Z217 ) (by decide) (W := 0) (by decide) (by decide) (by decide) rfl (by rw [hml]; rfl) (argsL := [.null]) (lenOf own_pd8 rfl) (rest := []) rfl rfl (Nat.le_of_eq rfl) (hb hby at_195) ?_
      intro _ T216 L216 X216 hQ216
      obtain ⟨rfl, N216q, e216⟩ := hQ216
      have N216 := Fr.app N147 N216q
      show own_Go p e below _ (T216.setTop (mkF m 198 #[.val (.int x0), .val (.int x1), .val (.int x2), .val (.int x3), .val (.int x4), .val (.int ((x4 &&& (3 : Int32)) % (3 : Int32))), .val (.int (0 : Int32)), .val (.int ((((x4.toUInt32 >>> ((3 : Int32) &&& 31).toUInt32).toInt32) &&& (3 : Int32)) % (3 : Int32))), .val (.ref b6_0), .val (.ref b10_0), .val (.int x2), .val (.ref b135), .val (.ref b142), .val (.int (((x4.toUInt32 >>> ((6 : Int32) &&& 31).toUInt32).toInt32) &&& (3 : Int32))), .unset] [(.int (0 : Int32))]))
      refine own_go (fun _ hr => XS.ifNo X216.here hx rfl (hb hby at_198) rfl ((if0 _ _).trans (teq (by decide)).2) (XS.iconst X216.here hx rfl (hb hby at_201) (XS.goto X216.here hx rfl (pc0 := 202) (pc' := 206) rfl (hb hby at_202) (by decide) (by decide) hr))) ?_
      show own_Go p e below _ (T216.setTop (mkF m 206 #[.val (.int x0), .val (.int x1), .val (.int x2), .val (.int x3), .val (.int x4), .val (.int ((x4 &&& (3 : Int32)) % (3 : Int32))), .val (.int (0 : Int32)), .val (.int ((((x4.toUInt32 >>> ((3 : Int32) &&& 31).toUInt32).toInt32) &&& (3 : Int32)) % (3 : Int32))), .val (.ref b6_0), .val (.ref b10_0), .val (.int x2), .val (.ref b135), .val (.ref b142), .val (.int (((x4.toUInt32 >>> ((6 : Int32) &&& 31).toUInt32).toInt32) &&& (3 : Int32))), .unset] [(.int (1 : Int32))]))
      have hk219 := (Nat.le_trans (Nat.le_trans (Nat.le_trans (Nat.le_trans (Nat.le_refl _) E135.1) K140.1) E142.1) K147.1)
      have A220 := A14.trans Ac10
      have A221 := A220.trans (CHr.ext E135 A220.1)
      have sf223 := (Safe.ext E135 A220.1 (Safe.new (Nat.le_of_eq g135.symm)))
      have A222 := A221.trans (CHr.keep K140 (sfS sf223 sf0) A221.1)
      have A224 := A222.trans (CHr.ext E142 A222.1)
      have sf226 := (Safe.ext E142 A222.1 (Safe.new (Nat.le_of_eq g142.symm)))
      have A225 := A224.trans (CHr.keep K147 (sfS sf226 sf0) A224.1)
      exact own_retNW X216 hx hlk Bd.returns hS hk219 hZ hEL hh e216 A225 (t := .boolean) (by simp) (hb hby at_206) (by decide) (by decide) ⟨rfl, N216⟩
    refine own_go (fun _ hr => XS.icmpYes X147.here hx rfl (pc0 := 189) (pc' := 207) rfl (hb hby at_189) rfl (feq c215).2 (by decide) (by decide) hr) ?_
    show own_Go p e below _ (T147.setTop (mkF m 207 #[.val (.int x0), .val (.int x1), .val (.int x2), .val (.int x3), .val (.int x4), .val (.int ((x4 &&& (3 : Int32)) % (3 : Int32))), .val (.int (0 : Int32)), .val (.int ((((x4.toUInt32 >>> ((3 : Int32) &&& 31).toUInt32).toInt32) &&& (3 : Int32)) % (3 : Int32))), .val (.ref b6_0), .val (.ref b10_0), .val (.int x2), .val (.ref b135), .val (.ref b142), .val (.int (((x4.toUInt32 >>> ((6 : Int32) &&& 31).toUInt32).toInt32) &&& (3 : Int32))), .unset] []))
    refine own_go (fun _ hr => XS.aload X147.here hx rfl (hb hby at_207) rfl rfl (XS.aload X147.here hx rfl (hb hby at_209) rfl rfl hr)) ?_
    show own_Go p e below _ (T147.setTop (mkF m 211 #[.val (.int x0), .val (.int x1), .val (.int x2), .val (.int x3), .val (.int x4), .val (.int ((x4 &&& (3 : Int32)) % (3 : Int32))), .val (.int (0 : Int32)), .val (.int ((((x4.toUInt32 >>> ((3 : Int32) &&& 31).toUInt32).toInt32) &&& (3 : Int32)) % (3 : Int32))), .val (.ref b6_0), .val (.ref b10_0), .val (.int x2), .val (.ref b135), .val (.ref b142), .val (.int (((x4.toUInt32 >>> ((6 : Int32) &&& 31).toUInt32).toInt32) &&& (3 : Int32))), .unset] [(.ref b6_0), (.ref b135)]))
    have f228 := (((((f6_0.keep K10).ext E135).keep K140).ext E142).keep K147)
    have Z229 := (Nat.le_trans Z148 K147.1)
    have f230 := (((A135.keep K140).ext E142).keep K147)
    refine own_cv X147 hx hZ hown (notFace_of_selects (args := #[]) (mvT hZ (hw _ (own_m 40 rfl)))) (hw _ (own_m 37 rfl)) (hw _ (own_m 38 rfl)) (hw _ (own_m 40 rfl)) (hw _ (own_m 39 rfl)) (hw _ (own_m 28 rfl)) (hw _ (own_m 41 rfl)) (by decide) f230 (rm := { frames := 0, cells := 0, slots := 0, locals := 0 }) (rm_equals_22 l Z a0 hw [] b135 b6_0 T147.heap n0 Z229 f228 (Ne.symm (Nat.ne_of_lt (Nat.lt_of_lt_of_le (f6_0.keep K10).lt (Nat.le_of_eq g135.symm))))) (by decide) (W := 0) (by decide) (by decide) (by decide) rfl (by rw [hml]; rfl) (argsL := [(.ref b6_0)]) (lenOf own_pd8 rfl) (rest := []) rfl rfl (Nat.le_of_eq rfl) (hb hby at_211) ?_
    intro _ T227 L227 X227 hQ227
    obtain ⟨rfl, N227q, e227⟩ := hQ227
    have N227 := Fr.app N147 N227q
    show own_Go p e below _ (T227.setTop (mkF m 214 #[.val (.int x0), .val (.int x1), .val (.int x2), .val (.int x3), .val (.int x4), .val (.int ((x4 &&& (3 : Int32)) % (3 : Int32))), .val (.int (0 : Int32)), .val (.int ((((x4.toUInt32 >>> ((3 : Int32) &&& 31).toUInt32).toInt32) &&& (3 : Int32)) % (3 : Int32))), .val (.ref b6_0), .val (.ref b10_0), .val (.int x2), .val (.ref b135), .val (.ref b142), .val (.int (((x4.toUInt32 >>> ((6 : Int32) &&& 31).toUInt32).toInt32) &&& (3 : Int32))), .unset] [(.int (0 : Int32))]))
    refine own_go (fun _ hr => XS.ifNo X227.here hx rfl (hb hby at_214) rfl ((if0 _ _).trans (teq (by decide)).2) (XS.iconst X227.here hx rfl (hb hby at_217) (XS.goto X227.here hx rfl (pc0 := 218) (pc' := 222) rfl (hb hby at_218) (by decide) (by decide) hr))) ?_
    show own_Go p e below _ (T227.setTop (mkF m 222 #[.val (.int x0), .val (.int x1), .val (.int x2), .val (.int x3), .val (.int x4), .val (.int ((x4 &&& (3 : Int32)) % (3 : Int32))), .val (.int (0 : Int32)), .val (.int ((((x4.toUInt32 >>> ((3 : Int32) &&& 31).toUInt32).toInt32) &&& (3 : Int32)) % (3 : Int32))), .val (.ref b6_0), .val (.ref b10_0), .val (.int x2), .val (.ref b135), .val (.ref b142), .val (.int (((x4.toUInt32 >>> ((6 : Int32) &&& 31).toUInt32).toInt32) &&& (3 : Int32))), .unset] [(.int (1 : Int32))]))
    have hk231 := (Nat.le_trans (Nat.le_trans (Nat.le_trans (Nat.le_trans (Nat.le_refl _) E135.1) K140.1) E142.1) K147.1)
    have A232 := A14.trans Ac10
    have A233 := A232.trans (CHr.ext E135 A232.1)
    have sf235 := (Safe.ext E135 A232.1 (Safe.new (Nat.le_of_eq g135.symm)))
    have A234 := A233.trans (CHr.keep K140 (sfS sf235 sf0) A233.1)
    have A236 := A234.trans (CHr.ext E142 A234.1)
    have sf238 := (Safe.ext E142 A234.1 (Safe.new (Nat.le_of_eq g142.symm)))
    have A237 := A236.trans (CHr.keep K147 (sfS sf238 sf0) A236.1)
    exact own_retNW X227 hx hlk Bd.returns hS hk231 hZ hEL hh e227 A237 (t := .boolean) (by simp) (hb hby at_222) (by decide) (by decide) ⟨rfl, N227⟩
  refine own_go (fun _ hr => XS.ifNo X0.here hx rfl (hb hby at_14) rfl ((if0 _ _).trans (feq c2).1) hr) ?_
  show own_Go p e below _ (s₁.setTop (mkF m 17 #[.val (.int x0), .val (.int x1), .val (.int x2), .val (.int x3), .val (.int x4), .val (.int ((x4 &&& (3 : Int32)) % (3 : Int32))), .unset, .unset, .unset, .unset, .unset, .unset, .unset, .unset, .unset] []))
  refine own_go (fun _ hr => XS.iconst X0.here hx rfl (hb hby at_17) (XS.goto X0.here hx rfl (pc0 := 18) (pc' := 22) rfl (hb hby at_18) (by decide) (by decide) (XS.istore X0.here hx rfl (hb hby at_22) rfl (l' := #[.val (.int x0), .val (.int x1), .val (.int x2), .val (.int x3), .val (.int x4), .val (.int ((x4 &&& (3 : Int32)) % (3 : Int32))), .val (.int (1 : Int32)), .unset, .unset, .unset, .unset, .unset, .unset, .unset, .unset]) rfl (XS.iload X0.here hx rfl (hb hby at_24) rfl (XS.iconst X0.here hx rfl (hb hby at_26) (XS.iushr X0.here hx rfl (hb hby at_27) rfl (XS.iconst X0.here hx rfl (hb hby at_28) (XS.iand X0.here hx rfl (hb hby at_29) rfl (XS.iconst X0.here hx rfl (hb hby at_30) hr))))))))) ?_
  show own_Go p e below _ (s₁.setTop (mkF m 31 #[.val (.int x0), .val (.int x1), .val (.int x2), .val (.int x3), .val (.int x4), .val (.int ((x4 &&& (3 : Int32)) % (3 : Int32))), .val (.int (1 : Int32)), .unset, .unset, .unset, .unset, .unset, .unset, .unset, .unset] [(.int (3 : Int32)), (.int (((x4.toUInt32 >>> ((3 : Int32) &&& 31).toUInt32).toInt32) &&& (3 : Int32)))]))
  have nz239 : (3 : Int32) ≠ (0 : Int32) := by decide
  refine own_go (fun _ hr => iremM X0 hx rfl (hb hby at_31) rfl nz239 hr) ?_
  show own_Go p e below _ (s₁.setTop (mkF m 32 #[.val (.int x0), .val (.int x1), .val (.int x2), .val (.int x3), .val (.int x4), .val (.int ((x4 &&& (3 : Int32)) % (3 : Int32))), .val (.int (1 : Int32)), .unset, .unset, .unset, .unset, .unset, .unset, .unset, .unset] [(.int ((((x4.toUInt32 >>> ((3 : Int32) &&& 31).toUInt32).toInt32) &&& (3 : Int32)) % (3 : Int32)))]))
  refine own_go (fun _ hr => XS.istore X0.here hx rfl (hb hby at_32) rfl (l' := #[.val (.int x0), .val (.int x1), .val (.int x2), .val (.int x3), .val (.int x4), .val (.int ((x4 &&& (3 : Int32)) % (3 : Int32))), .val (.int (1 : Int32)), .val (.int ((((x4.toUInt32 >>> ((3 : Int32) &&& 31).toUInt32).toInt32) &&& (3 : Int32)) % (3 : Int32))), .unset, .unset, .unset, .unset, .unset, .unset, .unset]) rfl (XS.iloadN X0.here hx rfl (hb hby at_34) rfl (XS.iload X0.here hx rfl (hb hby at_35) rfl hr))) ?_
  show own_Go p e below _ (s₁.setTop (mkF m 37 #[.val (.int x0), .val (.int x1), .val (.int x2), .val (.int x3), .val (.int x4), .val (.int ((x4 &&& (3 : Int32)) % (3 : Int32))), .val (.int (1 : Int32)), .val (.int ((((x4.toUInt32 >>> ((3 : Int32) &&& 31).toUInt32).toInt32) &&& (3 : Int32)) % (3 : Int32))), .unset, .unset, .unset, .unset, .unset, .unset, .unset] [(.int ((x4 &&& (3 : Int32)) % (3 : Int32))), (.int x0)]))
  have c240 : ¬ (((x4 &&& (3 : Int32)) % (3 : Int32)) < (0 : Int32)) := by
    have q0 := rng32 x4
    have q1 := c_iushr x4 (2 : Int32) 2 (by decide) (by decide)
    have q2 := c_mask ((x4.toUInt32 >>> ((2 : Int32) &&& 31).toUInt32).toInt32) (1 : Int32) 1 (by decide) (by decide)
    have q3 := c_mask x4 (3 : Int32) 2 (by decide) (by decide)
    have q4 := c_irem (x4 &&& (3 : Int32)) (3 : Int32) 3 (by decide)
    have p0 := c2
    simp only [true_implies, Int32.lt_iff_toInt_lt, ← Int32.toInt_inj, Int32.reduceToInt, Int64.lt_iff_toInt_lt, ← Int64.toInt_inj, Int64.reduceToInt] at q0 q1 q2 q3 q4 p0 ⊢
    omega
  have c241 : ¬ ((2 : Int32) < ((x4 &&& (3 : Int32)) % (3 : Int32))) := by
    have q0 := rng32 x4
    have q1 := c_iushr x4 (2 : Int32) 2 (by decide) (by decide)
    have q2 := c_mask ((x4.toUInt32 >>> ((2 : Int32) &&& 31).toUInt32).toInt32) (1 : Int32) 1 (by decide) (by decide)
    have q3 := c_mask x4 (3 : Int32) 2 (by decide) (by decide)
    have q4 := c_irem (x4 &&& (3 : Int32)) (3 : Int32) 3 (by decide)
    have p0 := c2
    have p1 := c240
    simp only [true_implies, Int32.lt_iff_toInt_lt, ← Int32.toInt_inj, Int32.reduceToInt, Int64.lt_iff_toInt_lt, ← Int64.toInt_inj, Int64.reduceToInt] at q0 q1 q2 q3 q4 p0 p1 ⊢
    omega
  have hZo243 := hZ
  refine own_csW X0 hx hZ hown (hw _ (own_m 0 rfl)) (hw _ (own_m 1 rfl)) (hw _ (own_m 2 rfl)) (hw _ (own_m 3 rfl)) (by decide) (rm := { frames := 4, cells := 6, slots := 12, locals := 66 }) (rm_mk l Z a0 hw [] x0 ((x4 &&& (3 : Int32)) % (3 : Int32)) i_COMPACT_STRINGS h0 n0 Z0 S_COMPACT_STRINGS hs_COMPACT_STRINGS c240 c241) (by decide) (W := 0) (by decide) (by decide) (by decide) e0 hEL A0.1 hS hk (by rw [hml]; rfl) (argsL := [(.int x0), (.int ((x4 &&& (3 : Int32)) % (3 : Int32)))]) (lenOf own_pd5 rfl) (rest := []) rfl rfl (Nat.le_of_eq rfl) (hb hby at_37) ?_
  intro _ T242 L242 X242 hQ242 Ac242 hS hZ hown
  obtain ⟨b242_0, b242_1, kb242_0, rfl, N242q, K242, ge242_0, sz242_0, f242_0, f242_1, f242_2, f242_3⟩ := hQ242
  have N242 := Fr.app N0 N242q
  show own_Go p e below _ (T242.setTop (mkF m 40 #[.val (.int x0), .val (.int x1), .val (.int x2), .val (.int x3), .val (.int x4), .val (.int ((x4 &&& (3 : Int32)) % (3 : Int32))), .val (.int (1 : Int32)), .val (.int ((((x4.toUInt32 >>> ((3 : Int32) &&& 31).toUInt32).toInt32) &&& (3 : Int32)) % (3 : Int32))), .unset, .unset, .unset, .unset, .unset, .unset, .unset] [(.ref b242_0)]))
  refine own_go (fun _ hr => XS.astore X242.here hx rfl (hb hby at_40) rfl rfl (l' := #[.val (.int x0), .val (.int x1), .val (.int x2), .val (.int x3), .val (.int x4), .val (.int ((x4 &&& (3 : Int32)) % (3 : Int32))), .val (.int (1 : Int32)), .val (.int ((((x4.toUInt32 >>> ((3 : Int32) &&& 31).toUInt32).toInt32) &&& (3 : Int32)) % (3 : Int32))), .val (.ref b242_0), .unset, .unset, .unset, .unset, .unset, .unset]) rfl (XS.iload X242.here hx rfl (hb hby at_42) rfl (XS.ifNo X242.here hx rfl (hb hby at_44) rfl ((if0 _ _).trans (feq (by decide)).1) (XS.iloadN X242.here hx rfl (hb hby at_47) rfl (XS.iload X242.here hx rfl (hb hby at_48) rfl hr))))) ?_
  show own_Go p e below _ (T242.setTop (mkF m 50 #[.val (.int x0), .val (.int x1), .val (.int x2), .val (.int x3), .val (.int x4), .val (.int ((x4 &&& (3 : Int32)) % (3 : Int32))), .val (.int (1 : Int32)), .val (.int ((((x4.toUInt32 >>> ((3 : Int32) &&& 31).toUInt32).toInt32) &&& (3 : Int32)) % (3 : Int32))), .val (.ref b242_0), .unset, .unset, .unset, .unset, .unset, .unset] [(.int ((x4 &&& (3 : Int32)) % (3 : Int32))), (.int x0)]))
  have f245 := (own_sta_keep S_COMPACT_STRINGS K242 all0)
  have Z246 := (Nat.le_trans Z0 K242.1)
  have hZo247 := hZ
  have A248 := A0.trans Ac242
  refine own_csW X242 hx hZ hown (hw _ (own_m 0 rfl)) (hw _ (own_m 1 rfl)) (hw _ (own_m 2 rfl)) (hw _ (own_m 3 rfl)) (by decide) (rm := { frames := 4, cells := 6, slots := 12, locals := 66 }) (rm_mk l Z a0 hw [] x0 ((x4 &&& (3 : Int32)) % (3 : Int32)) i_COMPACT_STRINGS T242.heap n0 Z246 f245 hs_COMPACT_STRINGS c240 c241) (by decide) (W := 0) (by decide) (by decide) (by decide) rfl hEL A248.1 hS (Nat.le_refl _) (by rw [hml]; rfl) (argsL := [(.int x0), (.int ((x4 &&& (3 : Int32)) % (3 : Int32)))]) (lenOf own_pd5 rfl) (rest := []) rfl rfl (Nat.le_of_eq rfl) (hb hby at_50) ?_
  intro _ T244 L244 X244 hQ244 Ac244 hS hZ hown
  obtain ⟨b244_0, b244_1, kb244_0, rfl, N244q, K244, ge244_0, sz244_0, f244_0, f244_1, f244_2, f244_3⟩ := hQ244
  have N244 := Fr.app N242 N244q
  show own_Go p e below _ (T244.setTop (mkF m 53 #[.val (.int x0), .val (.int x1), .val (.int x2), .val (.int x3), .val (.int x4), .val (.int ((x4 &&& (3 : Int32)) % (3 : Int32))), .val (.int (1 : Int32)), .val (.int ((((x4.toUInt32 >>> ((3 : Int32) &&& 31).toUInt32).toInt32) &&& (3 : Int32)) % (3 : Int32))), .val (.ref b242_0), .unset, .unset, .unset, .unset, .unset, .unset] [(.ref b244_0)]))
  refine own_go (fun _ hr => XS.goto X244.here hx rfl (pc0 := 53) (pc' := 62) rfl (hb hby at_53) (by decide) (by decide) (XS.astore X244.here hx rfl (hb hby at_62) rfl rfl (l' := #[.val (.int x0), .val (.int x1), .val (.int x2), .val (.int x3), .val (.int x4), .val (.int ((x4 &&& (3 : Int32)) % (3 : Int32))), .val (.int (1 : Int32)), .val (.int ((((x4.toUInt32 >>> ((3 : Int32) &&& 31).toUInt32).toInt32) &&& (3 : Int32)) % (3 : Int32))), .val (.ref b242_0), .val (.ref b244_0), .unset, .unset, .unset, .unset, .unset]) rfl (XS.iload X244.here hx rfl (hb hby at_64) rfl (XS.iconst X244.here hx rfl (hb hby at_66) (XS.iushr X244.here hx rfl (hb hby at_67) rfl (XS.iconst X244.here hx rfl (hb hby at_68) (XS.iand X244.here hx rfl (hb hby at_69) rfl hr))))))) ?_
  show own_Go p e below _ (T244.setTop (mkF m 70 #[.val (.int x0), .val (.int x1), .val (.int x2), .val (.int x3), .val (.int x4), .val (.int ((x4 &&& (3 : Int32)) % (3 : Int32))), .val (.int (1 : Int32)), .val (.int ((((x4.toUInt32 >>> ((3 : Int32) &&& 31).toUInt32).toInt32) &&& (3 : Int32)) % (3 : Int32))), .val (.ref b242_0), .val (.ref b244_0), .unset, .unset, .unset, .unset, .unset] [(.int (((x4.toUInt32 >>> ((5 : Int32) &&& 31).toUInt32).toInt32) &&& (1 : Int32)))]))
  rcases Classical.em ((((x4.toUInt32 >>> ((5 : Int32) &&& 31).toUInt32).toInt32) &&& (1 : Int32)) = (0 : Int32)) with c249 | c249
  · skip
    refine own_go (fun _ hr => XS.ifYes X244.here hx rfl (pc0 := 70) (pc' := 77) rfl (hb hby at_70) rfl ((if0 _ _).trans (teq c249).1) (by decide) (by decide) hr) ?_
    show own_Go p e below _ (T244.setTop (mkF m 77 #[.val (.int x0), .val (.int x1), .val (.int x2), .val (.int x3), .val (.int x4), .val (.int ((x4 &&& (3 : Int32)) % (3 : Int32))), .val (.int (1 : Int32)), .val (.int ((((x4.toUInt32 >>> ((3 : Int32) &&& 31).toUInt32).toInt32) &&& (3 : Int32)) % (3 : Int32))), .val (.ref b242_0), .val (.ref b244_0), .unset, .unset, .unset, .unset, .unset] []))
    refine own_go (fun _ hr => XS.iloadN X244.here hx rfl (hb hby at_77) rfl (XS.istore X244.here hx rfl (hb hby at_78) rfl (l' := #[.val (.int x0), .val (.int x1), .val (.int x2), .val (.int x3), .val (.int x4), .val (.int ((x4 &&& (3 : Int32)) % (3 : Int32))), .val (.int (1 : Int32)), .val (.int ((((x4.toUInt32 >>> ((3 : Int32) &&& 31).toUInt32).toInt32) &&& (3 : Int32)) % (3 : Int32))), .val (.ref b242_0), .val (.ref b244_0), .val (.int x3), .unset, .unset, .unset, .unset]) rfl hr)) ?_
    show own_Go p e below _ (T244.setTop (mkF m 80 #[.val (.int x0), .val (.int x1), .val (.int x2), .val (.int x3), .val (.int x4), .val (.int ((x4 &&& (3 : Int32)) % (3 : Int32))), .val (.int (1 : Int32)), .val (.int ((((x4.toUInt32 >>> ((3 : Int32) &&& 31).toUInt32).toInt32) &&& (3 : Int32)) % (3 : Int32))), .val (.ref b242_0), .val (.ref b244_0), .val (.int x3), .unset, .unset, .unset, .unset] []))
    obtain ⟨T250, h250, X250, e250, E250, A250, D250, -, st250⟩ := newO X244 hx hZ hown (hw _ (own_m 26 rfl)) (hw _ (own_m 27 rfl)) (hw _ (own_m 28 rfl)) rfl (g := (mkF m 80 #[.val (.int x0), .val (.int x1), .val (.int x2), .val (.int x3), .val (.int x4), .val (.int ((x4 &&& (3 : Int32)) % (3 : Int32))), .val (.int (1 : Int32)), .val (.int ((((x4.toUInt32 >>> ((3 : Int32) &&& 31).toUInt32).toInt32) &&& (3 : Int32)) % (3 : Int32))), .val (.ref b242_0), .val (.ref b244_0), .val (.int x3), .unset, .unset, .unset, .unset] [])) rfl (hb hby at_80) (by decide) (by decide)
    obtain ⟨b250, g250⟩ : ∃ z, z = T244.heap.size := ⟨_, rfl⟩
    rw [← g250] at A250 D250 st250
    have Z251 := (Nat.le_trans Z246 K244.1)
    have ge252 : n0 ≤ b250 := Nat.le_trans Z251 (Nat.le_of_eq g250.symm)
    refine own_go st250 ?_
    have f253 : Fld Z h250 b250 "com/example/appenddb/appenddb/TopicQueue" "topic" "Ljava/lang/String;" .null := D250 (Or.inr (hw _ (own_m 34 rfl))) (ty := (.object "java/lang/String")) (by decide)
    have f254 : Fld Z h250 b250 "com/example/appenddb/appenddb/TopicQueue" "queueId" "I" (.int (0 : Int32)) := D250 (Or.inr (hw _ (own_m 36 rfl))) (ty := .int) (by decide)
    show own_Go p e below _ (T250.setTop (mkF m 83 #[.val (.int x0), .val (.int x1), .val (.int x2), .val (.int x3), .val (.int x4), .val (.int ((x4 &&& (3 : Int32)) % (3 : Int32))), .val (.int (1 : Int32)), .val (.int ((((x4.toUInt32 >>> ((3 : Int32) &&& 31).toUInt32).toInt32) &&& (3 : Int32)) % (3 : Int32))), .val (.ref b242_0), .val (.ref b244_0), .val (.int x3), .unset, .unset, .unset, .unset] [(.ref b250)]))
    refine own_go (fun _ hr => XS.dup X250.here hx rfl (hb hby at_83) rfl rfl (XS.aload X250.here hx rfl (hb hby at_84) rfl rfl (XS.iloadN X250.here hx rfl (hb hby at_86) rfl hr))) ?_
    show own_Go p e below _ (T250.setTop (mkF m 87 #[.val (.int x0), .val (.int x1), .val (.int x2), .val (.int x3), .val (.int x4), .val (.int ((x4 &&& (3 : Int32)) % (3 : Int32))), .val (.int (1 : Int32)), .val (.int ((((x4.toUInt32 >>> ((3 : Int32) &&& 31).toUInt32).toInt32) &&& (3 : Int32)) % (3 : Int32))), .val (.ref b242_0), .val (.ref b244_0), .val (.int x3), .unset, .unset, .unset, .unset] [(.int x2), (.ref b242_0), (.ref b250), (.ref b250)]))
    have Z256 := (Nat.le_trans Z251 E250.1)
    refine own_cp X250 hx hZ hown rfl (hw _ (own_m 29 rfl)) (hw _ (own_m 30 rfl)) (hw _ (own_m 28 rfl)) (hw _ (own_m 31 rfl)) (by decide) (rm := { frames := 1, cells := 0, slots := 0, locals := 12 }) (rm_init_14 l Z a0 hw [] b250 b242_0 x2 h250 n0 Z256 A250 f253 f254 ge252) (by decide) (W := 1) (by decide) (by decide) (by decide) e250 (by rw [hml]; rfl) (argsL := [(.ref b242_0), (.int x2)]) (lenOf own_pd6 rfl) (rest := [(.ref b250)]) rfl rfl (Nat.le_of_eq rfl) (hb hby at_87) ?_
    intro _ T255 L255 X255 hQ255
    obtain ⟨rfl, N255q, K255, f255_0, f255_1⟩ := hQ255
    have N255 := Fr.app N244 N255q
    show own_Go p e below _ (T255.setTop (mkF m 90 #[.val (.int x0), .val (.int x1), .val (.int x2), .val (.int x3), .val (.int x4), .val (.int ((x4 &&& (3 : Int32)) % (3 : Int32))), .val (.int (1 : Int32)), .val (.int ((((x4.toUInt32 >>> ((3 : Int32) &&& 31).toUInt32).toInt32) &&& (3 : Int32)) % (3 : Int32))), .val (.ref b242_0), .val (.ref b244_0), .val (.int x3), .unset, .unset, .unset, .unset] [(.ref b250)]))
    refine own_go (fun _ hr => XS.astore X255.here hx rfl (hb hby at_90) rfl rfl (l' := #[.val (.int x0), .val (.int x1), .val (.int x2), .val (.int x3), .val (.int x4), .val (.int ((x4 &&& (3 : Int32)) % (3 : Int32))), .val (.int (1 : Int32)), .val (.int ((((x4.toUInt32 >>> ((3 : Int32) &&& 31).toUInt32).toInt32) &&& (3 : Int32)) % (3 : Int32))), .val (.ref b242_0), .val (.ref b244_0), .val (.int x3), .val (.ref b250), .unset, .unset, .unset]) rfl hr) ?_
    show own_Go p e below _ (T255.setTop (mkF m 92 #[.val (.int x0), .val (.int x1), .val (.int x2), .val (.int x3), .val (.int x4), .val (.int ((x4 &&& (3 : Int32)) % (3 : Int32))), .val (.int (1 : Int32)), .val (.int ((((x4.toUInt32 >>> ((3 : Int32) &&& 31).toUInt32).toInt32) &&& (3 : Int32)) % (3 : Int32))), .val (.ref b242_0), .val (.ref b244_0), .val (.int x3), .val (.ref b250), .unset, .unset, .unset] []))
    obtain ⟨T257, h257, X257, e257, E257, A257, D257, -, st257⟩ := newO X255 hx hZ hown (hw _ (own_m 26 rfl)) (hw _ (own_m 27 rfl)) (hw _ (own_m 28 rfl)) rfl (g := (mkF m 92 #[.val (.int x0), .val (.int x1), .val (.int x2), .val (.int x3), .val (.int x4), .val (.int ((x4 &&& (3 : Int32)) % (3 : Int32))), .val (.int (1 : Int32)), .val (.int ((((x4.toUInt32 >>> ((3 : Int32) &&& 31).toUInt32).toInt32) &&& (3 : Int32)) % (3 : Int32))), .val (.ref b242_0), .val (.ref b244_0), .val (.int x3), .val (.ref b250), .unset, .unset, .unset] [])) rfl (hb hby at_92) (by decide) (by decide)
    obtain ⟨b257, g257⟩ : ∃ z, z = T255.heap.size := ⟨_, rfl⟩
    rw [← g257] at A257 D257 st257
    have Z258 := (Nat.le_trans Z256 K255.1)
    have ge259 : n0 ≤ b257 := Nat.le_trans Z258 (Nat.le_of_eq g257.symm)
    refine own_go st257 ?_
    have f260 : Fld Z h257 b257 "com/example/appenddb/appenddb/TopicQueue" "topic" "Ljava/lang/String;" .null := D257 (Or.inr (hw _ (own_m 34 rfl))) (ty := (.object "java/lang/String")) (by decide)
    have f261 : Fld Z h257 b257 "com/example/appenddb/appenddb/TopicQueue" "queueId" "I" (.int (0 : Int32)) := D257 (Or.inr (hw _ (own_m 36 rfl))) (ty := .int) (by decide)
    show own_Go p e below _ (T257.setTop (mkF m 95 #[.val (.int x0), .val (.int x1), .val (.int x2), .val (.int x3), .val (.int x4), .val (.int ((x4 &&& (3 : Int32)) % (3 : Int32))), .val (.int (1 : Int32)), .val (.int ((((x4.toUInt32 >>> ((3 : Int32) &&& 31).toUInt32).toInt32) &&& (3 : Int32)) % (3 : Int32))), .val (.ref b242_0), .val (.ref b244_0), .val (.int x3), .val (.ref b250), .unset, .unset, .unset] [(.ref b257)]))
    refine own_go (fun _ hr => XS.dup X257.here hx rfl (hb hby at_95) rfl rfl (XS.aload X257.here hx rfl (hb hby at_96) rfl rfl (XS.iload X257.here hx rfl (hb hby at_98) rfl hr))) ?_
    show own_Go p e below _ (T257.setTop (mkF m 100 #[.val (.int x0), .val (.int x1), .val (.int x2), .val (.int x3), .val (.int x4), .val (.int ((x4 &&& (3 : Int32)) % (3 : Int32))), .val (.int (1 : Int32)), .val (.int ((((x4.toUInt32 >>> ((3 : Int32) &&& 31).toUInt32).toInt32) &&& (3 : Int32)) % (3 : Int32))), .val (.ref b242_0), .val (.ref b244_0), .val (.int x3), .val (.ref b250), .unset, .unset, .unset] [(.int x3), (.ref b244_0), (.ref b257), (.ref b257)]))
    have Z263 := (Nat.le_trans Z258 E257.1)
    refine own_cp X257 hx hZ hown rfl (hw _ (own_m 29 rfl)) (hw _ (own_m 30 rfl)) (hw _ (own_m 28 rfl)) (hw _ (own_m 31 rfl)) (by decide) (rm := { frames := 1, cells := 0, slots := 0, locals := 12 }) (rm_init_14 l Z a0 hw [] b257 b244_0 x3 h257 n0 Z263 A257 f260 f261 ge259) (by decide) (W := 1) (by decide) (by decide) (by decide) e257 (by rw [hml]; rfl) (argsL := [(.ref b244_0), (.int x3)]) (lenOf own_pd6 rfl) (rest := [(.ref b257)]) rfl rfl (Nat.le_of_eq rfl) (hb hby at_100) ?_
    intro _ T262 L262 X262 hQ262
    obtain ⟨rfl, N262q, K262, f262_0, f262_1⟩ := hQ262
    have N262 := Fr.app N255 N262q
    show own_Go p e below _ (T262.setTop (mkF m 103 #[.val (.int x0), .val (.int x1), .val (.int x2), .val (.int x3), .val (.int x4), .val (.int ((x4 &&& (3 : Int32)) % (3 : Int32))), .val (.int (1 : Int32)), .val (.int ((((x4.toUInt32 >>> ((3 : Int32) &&& 31).toUInt32).toInt32) &&& (3 : Int32)) % (3 : Int32))), .val (.ref b242_0), .val (.ref b244_0), .val (.int x3), .val (.ref b250), .unset, .unset, .unset] [(.ref b257)]))
    refine own_go (fun _ hr => XS.astore X262.here hx rfl (hb hby at_103) rfl rfl (l' := #[.val (.int x0), .val (.int x1), .val (.int x2), .val (.int x3), .val (.int x4), .val (.int ((x4 &&& (3 : Int32)) % (3 : Int32))), .val (.int (1 : Int32)), .val (.int ((((x4.toUInt32 >>> ((3 : Int32) &&& 31).toUInt32).toInt32) &&& (3 : Int32)) % (3 : Int32))), .val (.ref b242_0), .val (.ref b244_0), .val (.int x3), .val (.ref b250), .val (.ref b257), .unset, .unset]) rfl (XS.iload X262.here hx rfl (hb hby at_105) rfl (XS.bipush X262.here hx rfl (hb hby at_107) (XS.iushr X262.here hx rfl (hb hby at_109) rfl (XS.iconst X262.here hx rfl (hb hby at_110) (XS.iand X262.here hx rfl (hb hby at_111) rfl (XS.istore X262.here hx rfl (hb hby at_112) rfl (l' := #[.val (.int x0), .val (.int x1), .val (.int x2), .val (.int x3), .val (.int x4), .val (.int ((x4 &&& (3 : Int32)) % (3 : Int32))), .val (.int (1 : Int32)), .val (.int ((((x4.toUInt32 >>> ((3 : Int32) &&& 31).toUInt32).toInt32) &&& (3 : Int32)) % (3 : Int32))), .val (.ref b242_0), .val (.ref b244_0), .val (.int x3), .val (.ref b250), .val (.ref b257), .val (.int (((x4.toUInt32 >>> ((6 : Int32) &&& 31).toUInt32).toInt32) &&& (3 : Int32))), .unset]) rfl (XS.iload X262.here hx rfl (hb hby at_114) rfl hr)))))))) ?_
    show own_Go p e below _ (T262.setTop (mkF m 116 #[.val (.int x0), .val (.int x1), .val (.int x2), .val (.int x3), .val (.int x4), .val (.int ((x4 &&& (3 : Int32)) % (3 : Int32))), .val (.int (1 : Int32)), .val (.int ((((x4.toUInt32 >>> ((3 : Int32) &&& 31).toUInt32).toInt32) &&& (3 : Int32)) % (3 : Int32))), .val (.ref b242_0), .val (.ref b244_0), .val (.int x3), .val (.ref b250), .val (.ref b257), .val (.int (((x4.toUInt32 >>> ((6 : Int32) &&& 31).toUInt32).toInt32) &&& (3 : Int32))), .unset] [(.int (((x4.toUInt32 >>> ((6 : Int32) &&& 31).toUInt32).toInt32) &&& (3 : Int32)))]))
    rcases Classical.em ((((x4.toUInt32 >>> ((6 : Int32) &&& 31).toUInt32).toInt32) &&& (3 : Int32)) = (0 : Int32)) with c264 | c264
    · skip
      refine own_go (fun _ hr => XS.ifNo X262.here hx rfl (hb hby at_116) rfl ((if0 _ _).trans (teq c264).2) hr) ?_
      show own_Go p e below _ (T262.setTop (mkF m 119 #[.val (.int x0), .val (.int x1), .val (.int x2), .val (.int x3), .val (.int x4), .val (.int ((x4 &&& (3 : Int32)) % (3 : Int32))), .val (.int (1 : Int32)), .val (.int ((((x4.toUInt32 >>> ((3 : Int32) &&& 31).toUInt32).toInt32) &&& (3 : Int32)) % (3 : Int32))), .val (.ref b242_0), .val (.ref b244_0), .val (.int x3), .val (.ref b250), .val (.ref b257), .val (.int (((x4.toUInt32 >>> ((6 : Int32) &&& 31).toUInt32).toInt32) &&& (3 : Int32))), .unset] []))
      refine own_go (fun _ hr => XS.iloadN X262.here hx rfl (hb hby at_119) rfl (XS.iload X262.here hx rfl (hb hby at_120) rfl hr)) ?_
      show own_Go p e below _ (T262.setTop (mkF m 122 #[.val (.int x0), .val (.int x1), .val (.int x2), .val (.int x3), .val (.int x4), .val (.int ((x4 &&& (3 : Int32)) % (3 : Int32))), .val (.int (1 : Int32)), .val (.int ((((x4.toUInt32 >>> ((3 : Int32) &&& 31).toUInt32).toInt32) &&& (3 : Int32)) % (3 : Int32))), .val (.ref b242_0), .val (.ref b244_0), .val (.int x3), .val (.ref b250), .val (.ref b257), .val (.int (((x4.toUInt32 >>> ((6 : Int32) &&& 31).toUInt32).toInt32) &&& (3 : Int32))), .unset] [(.int x3), (.int x2)]))
      rcases Classical.em (x2 = x3) with c265 | c265
      · skip
        refine own_go (fun _ hr => XS.icmpNo X262.here hx rfl (hb hby at_122) rfl (teq c265).2 hr) ?_
        show own_Go p e below _ (T262.setTop (mkF m 125 #[.val (.int x0), .val (.int x1), .val (.int x2), .val (.int x3), .val (.int x4), .val (.int ((x4 &&& (3 : Int32)) % (3 : Int32))), .val (.int (1 : Int32)), .val (.int ((((x4.toUInt32 >>> ((3 : Int32) &&& 31).toUInt32).toInt32) &&& (3 : Int32)) % (3 : Int32))), .val (.ref b242_0), .val (.ref b244_0), .val (.int x3), .val (.ref b250), .val (.ref b257), .val (.int (((x4.toUInt32 >>> ((6 : Int32) &&& 31).toUInt32).toInt32) &&& (3 : Int32))), .unset] []))
        refine own_go (fun _ hr => XS.aload X262.here hx rfl (hb hby at_125) rfl rfl (XS.aload X262.here hx rfl (hb hby at_127) rfl rfl hr)) ?_
        show own_Go p e below _ (T262.setTop (mkF m 129 #[.val (.int x0), .val (.int x1), .val (.int x2), .val (.int x3), .val (.int x4), .val (.int ((x4 &&& (3 : Int32)) % (3 : Int32))), .val (.int (1 : Int32)), .val (.int ((((x4.toUInt32 >>> ((3 : Int32) &&& 31).toUInt32).toInt32) &&& (3 : Int32)) % (3 : Int32))), .val (.ref b242_0), .val (.ref b244_0), .val (.int x3), .val (.ref b250), .val (.ref b257), .val (.int (((x4.toUInt32 >>> ((6 : Int32) &&& 31).toUInt32).toInt32) &&& (3 : Int32))), .unset] [(.ref b244_0), (.ref b242_0)]))
        have c266 : ¬ ((own_leq x0 ((x4 &&& (3 : Int32)) % (3 : Int32)) x0 ((x4 &&& (3 : Int32)) % (3 : Int32))) = (0 : Int32)) := by rw [own_leq_self]; decide
        have f268 := ((((f244_0.ext E250).keep K255).ext E257).keep K262)
        have f269 := (own_sta_keep ((own_sta_keep ((own_sta_keep f245 K244 all0).ext E250) K255 (allS (own_ns_exa A250) all0)).ext E257) K262 (allS (own_ns_exa A257) all0))
        have f270 := (((((f242_1.keep K244 nin0).ext E250).keep K255 (ninS (Nat.ne_of_lt (Nat.lt_of_lt_of_le (f242_0.keep K244).lt (Nat.le_of_eq g250.symm))) nin0)).ext E257).keep K262 (ninS (Nat.ne_of_lt (Nat.lt_of_lt_of_le (((f242_0.keep K244).ext E250).keep K255).lt (Nat.le_of_eq g257.symm))) nin0))
        have f271 := ((((f244_1.ext E250).keep K255 (ninS (Nat.ne_of_lt (Nat.lt_of_lt_of_le f244_0.lt (Nat.le_of_eq g250.symm))) nin0)).ext E257).keep K262 (ninS (Nat.ne_of_lt (Nat.lt_of_lt_of_le ((f244_0.ext E250).keep K255).lt (Nat.le_of_eq g257.symm))) nin0))
        have f272 := (((((f242_2.keep K244 nin0).ext E250).keep K255 (ninS (Nat.ne_of_lt (Nat.lt_of_lt_of_le (f242_0.keep K244).lt (Nat.le_of_eq g250.symm))) nin0)).ext E257).keep K262 (ninS (Nat.ne_of_lt (Nat.lt_of_lt_of_le (((f242_0.keep K244).ext E250).keep K255).lt (Nat.le_of_eq g257.symm))) nin0))
        have f273 := ((((f244_2.ext E250).keep K255 (ninS (Nat.ne_of_lt (Nat.lt_of_lt_of_le f244_0.lt (Nat.le_of_eq g250.symm))) nin0)).ext E257).keep K262 (ninS (Nat.ne_of_lt (Nat.lt_of_lt_of_le ((f244_0.ext E250).keep K255).lt (Nat.le_of_eq g257.symm))) nin0))
        have f274 := (((((f242_3.keep K244 nin0).ext E250).keep K255 (ninS (Nat.ne_of_lt (Nat.lt_of_lt_of_le (f242_3.keep K244 nin0).lt (Nat.le_of_eq g250.symm))) nin0)).ext E257).keep K262 (ninS (Nat.ne_of_lt (Nat.lt_of_lt_of_le (((f242_3.keep K244 nin0).ext E250).keep K255 (ninS (Nat.ne_of_lt (Nat.lt_of_lt_of_le (f242_3.keep K244 nin0).lt (Nat.le_of_eq g250.symm))) nin0)).lt (Nat.le_of_eq g257.symm))) nin0))
        have f275 := ((((f244_3.ext E250).keep K255 (ninS (Nat.ne_of_lt (Nat.lt_of_lt_of_le f244_3.lt (Nat.le_of_eq g250.symm))) nin0)).ext E257).keep K262 (ninS (Nat.ne_of_lt (Nat.lt_of_lt_of_le ((f244_3.ext E250).keep K255 (ninS (Nat.ne_of_lt (Nat.lt_of_lt_of_le f244_3.lt (Nat.le_of_eq g250.symm))) nin0)).lt (Nat.le_of_eq g257.symm))) nin0))
        have Z276 := (Nat.le_trans Z263 K262.1)
        have f277 := (((((f242_0.keep K244).ext E250).keep K255).ext E257).keep K262)
        refine own_cv X262 hx hZ hown (notFace_of_selects (args := #[]) (mvT hZ (hw _ (own_m 58 rfl)))) (hw _ (own_m 55 rfl)) (hw _ (own_m 56 rfl)) (hw _ (own_m 58 rfl)) (hw _ (own_m 57 rfl)) (hw _ (own_m 6 rfl)) (hw _ (own_m 59 rfl)) (by decide) f277 (rm := { frames := 1, cells := 0, slots := 0, locals := 14 }) (rm_equals_25 l Z a0 hw [] b242_0 b244_0 i_COMPACT_STRINGS b242_1 b244_1 ((x4 &&& (3 : Int32)) % (3 : Int32)) x0 kb242_0 kb244_0 T262.heap n0 Z276 f268 f269 f270 f271 f272 f273 f274 f275 (Nat.ne_of_lt (Nat.lt_of_lt_of_le f242_0.lt sz244_0)) hs_COMPACT_STRINGS c241 c240 c266) (by decide) (W := 0) (by decide) (by decide) (by decide) rfl (by rw [hml]; rfl) (argsL := [(.ref b244_0)]) (lenOf own_pd8 rfl) (rest := []) rfl rfl (Nat.le_of_eq rfl) (hb hby at_129) ?_
        intro _ T267 L267 X267 hQ267
        obtain ⟨rfl, N267q, e267⟩ := hQ267
        have N267 := Fr.app N262 N267q
        show own_Go p e below _ (T267.setTop (mkF m 132 #[.val (.int x0), .val (.int x1), .val (.int x2), .val (.int x3), .val (.int x4), .val (.int ((x4 &&& (3 : Int32)) % (3 : Int32))), .val (.int (1 : Int32)), .val (.int ((((x4.toUInt32 >>> ((3 : Int32) &&& 31).toUInt32).toInt32) &&& (3 : Int32)) % (3 : Int32))), .val (.ref b242_0), .val (.ref b244_0), .val (.int x3), .val (.ref b250), .val (.ref b257), .val (.int (((x4.toUInt32 >>> ((6 : Int32) &&& 31).toUInt32).toInt32) &&& (3 : Int32))), .unset] [(.int (1 : Int32))]))
        refine own_go (fun _ hr => XS.ifNo X267.here hx rfl (hb hby at_132) rfl ((if0 _ _).trans (feq (by decide)).1) (XS.iconst X267.here hx rfl (hb hby at_135) (XS.goto X267.here hx rfl (pc0 := 136) (pc' := 140) rfl (hb hby at_136) (by decide) (by decide) (XS.istore X267.here hx rfl (hb hby at_140) rfl (l' := #[.val (.int x0), .val (.int x1), .val (.int x2), .val (.int x3), .val (.int x4), .val (.int ((x4 &&& (3 : Int32)) % (3 : Int32))), .val (.int (1 : Int32)), .val (.int ((((x4.toUInt32 >>> ((3 : Int32) &&& 31).toUInt32).toInt32) &&& (3 : Int32)) % (3 : Int32))), .val (.ref b242_0), .val (.ref b244_0), .val (.int x3), .val (.ref b250), .val (.ref b257), .val (.int (((x4.toUInt32 >>> ((6 : Int32) &&& 31).toUInt32).toInt32) &&& (3 : Int32))), .val (.int (1 : Int32))]) rfl (XS.aload X267.here hx rfl (hb hby at_142) rfl rfl (XS.aload X267.here hx rfl (hb hby at_144) rfl rfl hr)))))) ?_
        show own_Go p e below _ (T267.setTop (mkF m 146 #[.val (.int x0), .val (.int x1), .val (.int x2), .val (.int x3), .val (.int x4), .val (.int ((x4 &&& (3 : Int32)) % (3 : Int32))), .val (.int (1 : Int32)), .val (.int ((((x4.toUInt32 >>> ((3 : Int32) &&& 31).toUInt32).toInt32) &&& (3 : Int32)) % (3 : Int32))), .val (.ref b242_0), .val (.ref b244_0), .val (.int x3), .val (.ref b250), .val (.ref b257), .val (.int (((x4.toUInt32 >>> ((6 : Int32) &&& 31).toUInt32).toInt32) &&& (3 : Int32))), .val (.int (1 : Int32))] [(.ref b257), (.ref b250)]))
        have f279 := (A257.keep K262)
        have f280 := ((f255_0.ext E257).keep K262 (ninS (Nat.ne_of_lt (Nat.lt_of_lt_of_le (A250.keep K255).lt (Nat.le_of_eq g257.symm))) nin0))
        have f281 := ((f255_1.ext E257).keep K262 (ninS (Nat.ne_of_lt (Nat.lt_of_lt_of_le (A250.keep K255).lt (Nat.le_of_eq g257.symm))) nin0))
        have f282 := (((A250.keep K255).ext E257).keep K262)
        refine own_cv X267 hx hZ hown (notFace_of_selects (args := #[]) (mvT hZ (hw _ (own_m 40 rfl)))) (hw _ (own_m 37 rfl)) (hw _ (own_m 38 rfl)) (hw _ (own_m 40 rfl)) (hw _ (own_m 39 rfl)) (hw _ (own_m 28 rfl)) (hw _ (own_m 41 rfl)) (by decide) f282 (rm := { frames := 2, cells := 0, slots := 0, locals := 28 }) (rm_equals_26 l Z a0 hw [] b250 b257 x2 x3 b242_0 b244_0 i_COMPACT_STRINGS b242_1 b244_1 ((x4 &&& (3 : Int32)) % (3 : Int32)) x0 kb242_0 kb244_0 T262.heap n0 Z276 f279 f280 f262_0 f281 f262_1 f268 f269 f270 f271 f272 f273 f274 f275 f277 (Nat.ne_of_lt (Nat.lt_of_lt_of_le (A250.keep K255).lt (Nat.le_of_eq g257.symm))) (Nat.ne_of_lt (Nat.lt_of_lt_of_le f242_0.lt sz244_0)) c265 hs_COMPACT_STRINGS c241 c240 c266) (by decide) (W := 0) (by decide) (by decide) (by decide) e267 (by rw [hml]; rfl) (argsL := [(.ref b257)]) (lenOf own_pd8 rfl) (rest := []) rfl rfl (Nat.le_of_eq rfl) (hb hby at_146) ?_
        intro _ T278 L278 X278 hQ278
        obtain ⟨rfl, N278q, e278⟩ := hQ278
        have N278 := Fr.app N267 N278q
        show own_Go p e below _ (T278.setTop (mkF m 149 #[.val (.int x0), .val (.int x1), .val (.int x2), .val (.int x3), .val (.int x4), .val (.int ((x4 &&& (3 : Int32)) % (3 : Int32))), .val (.int (1 : Int32)), .val (.int ((((x4.toUInt32 >>> ((3 : Int32) &&& 31).toUInt32).toInt32) &&& (3 : Int32)) % (3 : Int32))), .val (.ref b242_0), .val (.ref b244_0), .val (.int x3), .val (.ref b250), .val (.ref b257), .val (.int (((x4.toUInt32 >>> ((6 : Int32) &&& 31).toUInt32).toInt32) &&& (3 : Int32))), .val (.int (1 : Int32))] [(.int (1 : Int32))]))
        refine own_go (fun _ hr => XS.iload X278.here hx rfl (hb hby at_149) rfl (XS.icmpNo X278.here hx rfl (hb hby at_151) rfl (teq (by decide)).2 (XS.aload X278.here hx rfl (hb hby at_154) rfl rfl (XS.aload X278.here hx rfl (hb hby at_156) rfl rfl hr)))) ?_
        show own_Go p e below _ (T278.setTop (mkF m 158 #[.val (.int x0), .val (.int x1), .val (.int x2), .val (.int x3), .val (.int x4), .val (.int ((x4 &&& (3 : Int32)) % (3 : Int32))), .val (.int (1 : Int32)), .val (.int ((((x4.toUInt32 >>> ((3 : Int32) &&& 31).toUInt32).toInt32) &&& (3 : Int32)) % (3 : Int32))), .val (.ref b242_0), .val (.ref b244_0), .val (.int x3), .val (.ref b250), .val (.ref b257), .val (.int (((x4.toUInt32 >>> ((6 : Int32) &&& 31).toUInt32).toInt32) &&& (3 : Int32))), .val (.int (1 : Int32))] [(.ref b250), (.ref b257)]))
        refine own_cv X278 hx hZ hown (notFace_of_selects (args := #[]) (mvT hZ (hw _ (own_m 40 rfl)))) (hw _ (own_m 37 rfl)) (hw _ (own_m 38 rfl)) (hw _ (own_m 40 rfl)) (hw _ (own_m 39 rfl)) (hw _ (own_m 28 rfl)) (hw _ (own_m 41 rfl)) (by decide) f279 (rm := { frames := 2, cells := 0, slots := 0, locals := 28 }) (rm_equals_26 l Z a0 hw [] b257 b250 x3 x2 b244_0 b242_0 i_COMPACT_STRINGS b244_1 b242_1 ((x4 &&& (3 : Int32)) % (3 : Int32)) x0 kb244_0 kb242_0 T262.heap n0 Z276 f282 f262_0 f280 f262_1 f281 f277 f269 f271 f270 f273 f272 f275 f274 f268 (Ne.symm (Nat.ne_of_lt (Nat.lt_of_lt_of_le (A250.keep K255).lt (Nat.le_of_eq g257.symm)))) (Ne.symm (Nat.ne_of_lt (Nat.lt_of_lt_of_le f242_0.lt sz244_0))) c265.symm hs_COMPACT_STRINGS c241 c240 c266) (by decide) (W := 0) (by decide) (by decide) (by decide) e278 (by rw [hml]; rfl) (argsL := [(.ref b250)]) (lenOf own_pd8 rfl) (rest := []) rfl rfl (Nat.le_of_eq rfl) (hb hby at_158) ?_
        intro _ T283 L283 X283 hQ283
        obtain ⟨rfl, N283q, e283⟩ := hQ283
        have N283 := Fr.app N278 N283q
        show own_Go p e below _ (T283.setTop (mkF m 161 #[.val (.int x0), .val (.int x1), .val (.int x2), .val (.int x3), .val (.int x4), .val (.int ((x4 &&& (3 : Int32)) % (3 : Int32))), .val (.int (1 : Int32)), .val (.int ((((x4.toUInt32 >>> ((3 : Int32) &&& 31).toUInt32).toInt32) &&& (3 : Int32)) % (3 : Int32))), .val (.ref b242_0), .val (.ref b244_0), .val (.int x3), .val (.ref b250), .val (.ref b257), .val (.int (((x4.toUInt32 >>> ((6 : Int32) &&& 31).toUInt32).toInt32) &&& (3 : Int32))), .val (.int (1 : Int32))] [(.int (1 : Int32))]))
        refine own_go (fun _ hr => XS.iload X283.here hx rfl (hb hby at_161) rfl (XS.icmpNo X283.here hx rfl (hb hby at_163) rfl (teq (by decide)).2 (XS.iconst X283.here hx rfl (hb hby at_166) (XS.goto X283.here hx rfl (pc0 := 167) (pc' := 171) rfl (hb hby at_167) (by decide) (by decide) hr)))) ?_
        show own_Go p e below _ (T283.setTop (mkF m 171 #[.val (.int x0), .val (.int x1), .val (.int x2), .val (.int x3), .val (.int x4), .val (.int ((x4 &&& (3 : Int32)) % (3 : Int32))), .val (.int (1 : Int32)), .val (.int ((((x4.toUInt32 >>> ((3 : Int32) &&& 31).toUInt32).toInt32) &&& (3 : Int32)) % (3 : Int32))), .val (.ref b242_0), .val (.ref b244_0), .val (.int x3), .val (.ref b250), .val (.ref b257), .val (.int (((x4.toUInt32 >>> ((6 : Int32) &&& 31).toUInt32).toInt32) &&& (3 : Int32))), .val (.int (1 : Int32))] [(.int (1 : Int32))]))
        have hk284 := (Nat.le_trans (Nat.le_trans (Nat.le_trans (Nat.le_trans (Nat.le_refl _) E250.1) K255.1) E257.1) K262.1)
        have A285 := A248.trans Ac244
        have A286 := A285.trans (CHr.ext E250 A285.1)
        have sf288 := (Safe.ext E250 A285.1 (Safe.new (Nat.le_of_eq g250.symm)))
        have A287 := A286.trans (CHr.keep K255 (sfS sf288 sf0) A286.1)
        have A289 := A287.trans (CHr.ext E257 A287.1)
        have sf291 := (Safe.ext E257 A287.1 (Safe.new (Nat.le_of_eq g257.symm)))
        have A290 := A289.trans (CHr.keep K262 (sfS sf291 sf0) A289.1)
        exact own_retNW X283 hx hlk Bd.returns hS hk284 hZ hEL hh e283 A290 (t := .boolean) (by simp) (hb hby at_171) (by decide) (by decide) ⟨rfl, N283⟩
      refine own_go (fun _ hr => XS.icmpYes X262.here hx rfl (pc0 := 122) (pc' := 139) rfl (hb hby at_122) rfl (feq c265).2 (by decide) (by decide) hr) ?_
      show own_Go p e below _ (T262.setTop (mkF m 139 #[.val (.int x0), .val (.int x1), .val (.int x2), .val (.int x3), .val (.int x4), .val (.int ((x4 &&& (3 : Int32)) % (3 : Int32))), .val (.int (1 : Int32)), .val (.int ((((x4.toUInt32 >>> ((3 : Int32) &&& 31).toUInt32).toInt32) &&& (3 : Int32)) % (3 : Int32))), .val (.ref b242_0), .val (.ref b244_0), .val (.int x3), .val (.ref b250), .val (.ref b257), .val (.int (((x4.toUInt32 >>> ((6 : Int32) &&& 31).toUInt32).toInt32) &&& (3 : Int32))), .unset] []))
      refine own_go (fun _ hr => XS.iconst X262.here hx rfl (hb hby at_139) (XS.istore X262.here hx rfl (hb hby at_140) rfl (l' := #[.val (.int x0), .val (.int x1), .val (.int x2), .val (.int x3), .val (.int x4), .val (.int ((x4 &&& (3 : Int32)) % (3 : Int32))), .val (.int (1 : Int32)), .val (.int ((((x4.toUInt32 >>> ((3 : Int32) &&& 31).toUInt32).toInt32) &&& (3 : Int32)) % (3 : Int32))), .val (.ref b242_0), .val (.ref b244_0), .val (.int x3), .val (.ref b250), .val (.ref b257), .val (.int (((x4.toUInt32 >>> ((6 : Int32) &&& 31).toUInt32).toInt32) &&& (3 : Int32))), .val (.int (0 : Int32))]) rfl (XS.aload X262.here hx rfl (hb hby at_142) rfl rfl (XS.aload X262.here hx rfl (hb hby at_144) rfl rfl hr)))) ?_
      show own_Go p e below _ (T262.setTop (mkF m 146 #[.val (.int x0), .val (.int x1), .val (.int x2), .val (.int x3), .val (.int x4), .val (.int ((x4 &&& (3 : Int32)) % (3 : Int32))), .val (.int (1 : Int32)), .val (.int ((((x4.toUInt32 >>> ((3 : Int32) &&& 31).toUInt32).toInt32) &&& (3 : Int32)) % (3 : Int32))), .val (.ref b242_0), .val (.ref b244_0), .val (.int x3), .val (.ref b250), .val (.ref b257), .val (.int (((x4.toUInt32 >>> ((6 : Int32) &&& 31).toUInt32).toInt32) &&& (3 : Int32))), .val (.int (0 : Int32))] [(.ref b257), (.ref b250)]))
      have f293 := (A257.keep K262)
      have f294 := ((f255_0.ext E257).keep K262 (ninS (Nat.ne_of_lt (Nat.lt_of_lt_of_le (A250.keep K255).lt (Nat.le_of_eq g257.symm))) nin0))
      have Z295 := (Nat.le_trans Z263 K262.1)
      have f296 := (((A250.keep K255).ext E257).keep K262)
      refine own_cv X262 hx hZ hown (notFace_of_selects (args := #[]) (mvT hZ (hw _ (own_m 40 rfl)))) (hw _ (own_m 37 rfl)) (hw _ (own_m 38 rfl)) (hw _ (own_m 40 rfl)) (hw _ (own_m 39 rfl)) (hw _ (own_m 28 rfl)) (hw _ (own_m 41 rfl)) (by decide) f296 (rm := { frames := 0, cells := 0, slots := 0, locals := 0 }) (rm_equals_19 l Z a0 hw [] b250 b257 x2 x3 T262.heap n0 Z295 f293 f294 f262_0 (Nat.ne_of_lt (Nat.lt_of_lt_of_le (A250.keep K255).lt (Nat.le_of_eq g257.symm))) c265) (by decide) (W := 0) (by decide) (by decide) (by decide) rfl (by rw [hml]; rfl) (argsL := [(.ref b257)]) (lenOf own_pd8 rfl) (rest := []) rfl rfl (Nat.le_of_eq rfl) (hb hby at_146) ?_
      intro _ T292 L292 X292 hQ292
      obtain ⟨rfl, N292q, e292⟩ := hQ292
      have N292 := Fr.app N262 N292q
      show own_Go p e below _ (T292.setTop (mkF m 149 #[.val (.int x0), .val (.int x1), .val (.int x2), .val (.int x3), .val (.int x4), .val (.int ((x4 &&& (3 : Int32)) % (3 : Int32))), .val (.int (1 : Int32)), .val (.int ((((x4.toUInt32 >>> ((3 : Int32) &&& 31).toUInt32).toInt32) &&& (3 : Int32)) % (3 : Int32))), .val (.ref b242_0), .val (.ref b244_0), .val (.int x3), .val (.ref b250), .val (.ref b257), .val (.int (((x4.toUInt32 >>> ((6 : Int32) &&& 31).toUInt32).toInt32) &&& (3 : Int32))), .val (.int (0 : Int32))] [(.int (0 : Int32))]))
      refine own_go (fun _ hr => XS.iload X292.here hx rfl (hb hby at_149) rfl (XS.icmpNo X292.here hx rfl (hb hby at_151) rfl (teq (by decide)).2 (XS.aload X292.here hx rfl (hb hby at_154) rfl rfl (XS.aload X292.here hx rfl (hb hby at_156) rfl rfl hr)))) ?_
      show own_Go p e below _ (T292.setTop (mkF m 158 #[.val (.int x0), .val (.int x1), .val (.int x2), .val (.int x3), .val (.int x4), .val (.int ((x4 &&& (3 : Int32)) % (3 : Int32))), .val (.int (1 : Int32)), .val (.int ((((x4.toUInt32 >>> ((3 : Int32) &&& 31).toUInt32).toInt32) &&& (3 : Int32)) % (3 : Int32))), .val (.ref b242_0), .val (.ref b244_0), .val (.int x3), .val (.ref b250), .val (.ref b257), .val (.int (((x4.toUInt32 >>> ((6 : Int32) &&& 31).toUInt32).toInt32) &&& (3 : Int32))), .val (.int (0 : Int32))] [(.ref b250), (.ref b257)]))
      refine own_cv X292 hx hZ hown (notFace_of_selects (args := #[]) (mvT hZ (hw _ (own_m 40 rfl)))) (hw _ (own_m 37 rfl)) (hw _ (own_m 38 rfl)) (hw _ (own_m 40 rfl)) (hw _ (own_m 39 rfl)) (hw _ (own_m 28 rfl)) (hw _ (own_m 41 rfl)) (by decide) f293 (rm := { frames := 0, cells := 0, slots := 0, locals := 0 }) (rm_equals_19 l Z a0 hw [] b257 b250 x3 x2 T262.heap n0 Z295 f296 f262_0 f294 (Ne.symm (Nat.ne_of_lt (Nat.lt_of_lt_of_le (A250.keep K255).lt (Nat.le_of_eq g257.symm)))) (fun q => c265 q.symm)) (by decide) (W := 0) (by decide) (by decide) (by decide) e292 (by rw [hml]; rfl) (argsL := [(.ref b250)]) (lenOf own_pd8 rfl) (rest := []) rfl rfl (Nat.le_of_eq rfl) (hb hby at_158) ?_
      intro _ T297 L297 X297 hQ297
      obtain ⟨rfl, N297q, e297⟩ := hQ297
      have N297 := Fr.app N292 N297q
      show own_Go p e below _ (T297.setTop (mkF m 161 #[.val (.int x0), .val (.int x1), .val (.int x2), .val (.int x3), .val (.int x4), .val (.int ((x4 &&& (3 : Int32)) % (3 : Int32))), .val (.int (1 : Int32)), .val (.int ((((x4.toUInt32 >>> ((3 : Int32) &&& 31).toUInt32).toInt32) &&& (3 : Int32)) % (3 : Int32))), .val (.ref b242_0), .val (.ref b244_0), .val (.int x3), .val (.ref b250), .val (.ref b257), .val (.int (((x4.toUInt32 >>> ((6 : Int32) &&& 31).toUInt32).toInt32) &&& (3 : Int32))), .val (.int (0 : Int32))] [(.int (0 : Int32))]))
      refine own_go (fun _ hr => XS.iload X297.here hx rfl (hb hby at_161) rfl (XS.icmpNo X297.here hx rfl (hb hby at_163) rfl (teq (by decide)).2 (XS.iconst X297.here hx rfl (hb hby at_166) (XS.goto X297.here hx rfl (pc0 := 167) (pc' := 171) rfl (hb hby at_167) (by decide) (by decide) hr)))) ?_
      show own_Go p e below _ (T297.setTop (mkF m 171 #[.val (.int x0), .val (.int x1), .val (.int x2), .val (.int x3), .val (.int x4), .val (.int ((x4 &&& (3 : Int32)) % (3 : Int32))), .val (.int (1 : Int32)), .val (.int ((((x4.toUInt32 >>> ((3 : Int32) &&& 31).toUInt32).toInt32) &&& (3 : Int32)) % (3 : Int32))), .val (.ref b242_0), .val (.ref b244_0), .val (.int x3), .val (.ref b250), .val (.ref b257), .val (.int (((x4.toUInt32 >>> ((6 : Int32) &&& 31).toUInt32).toInt32) &&& (3 : Int32))), .val (.int (0 : Int32))] [(.int (1 : Int32))]))
      have hk298 := (Nat.le_trans (Nat.le_trans (Nat.le_trans (Nat.le_trans (Nat.le_refl _) E250.1) K255.1) E257.1) K262.1)
      have A299 := A248.trans Ac244
      have A300 := A299.trans (CHr.ext E250 A299.1)
      have sf302 := (Safe.ext E250 A299.1 (Safe.new (Nat.le_of_eq g250.symm)))
      have A301 := A300.trans (CHr.keep K255 (sfS sf302 sf0) A300.1)
      have A303 := A301.trans (CHr.ext E257 A301.1)
      have sf305 := (Safe.ext E257 A301.1 (Safe.new (Nat.le_of_eq g257.symm)))
      have A304 := A303.trans (CHr.keep K262 (sfS sf305 sf0) A303.1)
      exact own_retNW X297 hx hlk Bd.returns hS hk298 hZ hEL hh e297 A304 (t := .boolean) (by simp) (hb hby at_171) (by decide) (by decide) ⟨rfl, N297⟩
    refine own_go (fun _ hr => XS.ifYes X262.here hx rfl (pc0 := 116) (pc' := 172) rfl (hb hby at_116) rfl ((if0 _ _).trans (feq c264).2) (by decide) (by decide) hr) ?_
    show own_Go p e below _ (T262.setTop (mkF m 172 #[.val (.int x0), .val (.int x1), .val (.int x2), .val (.int x3), .val (.int x4), .val (.int ((x4 &&& (3 : Int32)) % (3 : Int32))), .val (.int (1 : Int32)), .val (.int ((((x4.toUInt32 >>> ((3 : Int32) &&& 31).toUInt32).toInt32) &&& (3 : Int32)) % (3 : Int32))), .val (.ref b242_0), .val (.ref b244_0), .val (.int x3), .val (.ref b250), .val (.ref b257), .val (.int (((x4.toUInt32 >>> ((6 : Int32) &&& 31).toUInt32).toInt32) &&& (3 : Int32))), .unset] []))
    refine own_go (fun _ hr => XS.iload X262.here hx rfl (hb hby at_172) rfl (XS.iconst X262.here hx rfl (hb hby at_174) hr)) ?_
    show own_Go p e below _ (T262.setTop (mkF m 175 #[.val (.int x0), .val (.int x1), .val (.int x2), .val (.int x3), .val (.int x4), .val (.int ((x4 &&& (3 : Int32)) % (3 : Int32))), .val (.int (1 : Int32)), .val (.int ((((x4.toUInt32 >>> ((3 : Int32) &&& 31).toUInt32).toInt32) &&& (3 : Int32)) % (3 : Int32))), .val (.ref b242_0), .val (.ref b244_0), .val (.int x3), .val (.ref b250), .val (.ref b257), .val (.int (((x4.toUInt32 >>> ((6 : Int32) &&& 31).toUInt32).toInt32) &&& (3 : Int32))), .unset] [(.int (1 : Int32)), (.int (((x4.toUInt32 >>> ((6 : Int32) &&& 31).toUInt32).toInt32) &&& (3 : Int32)))]))
    rcases Classical.em ((((x4.toUInt32 >>> ((6 : Int32) &&& 31).toUInt32).toInt32) &&& (3 : Int32)) = (1 : Int32)) with c306 | c306
    · skip
      refine own_go (fun _ hr => XS.icmpNo X262.here hx rfl (hb hby at_175) rfl (teq c306).2 hr) ?_
      show own_Go p e below _ (T262.setTop (mkF m 178 #[.val (.int x0), .val (.int x1), .val (.int x2), .val (.int x3), .val (.int x4), .val (.int ((x4 &&& (3 : Int32)) % (3 : Int32))), .val (.int (1 : Int32)), .val (.int ((((x4.toUInt32 >>> ((3 : Int32) &&& 31).toUInt32).toInt32) &&& (3 : Int32)) % (3 : Int32))), .val (.ref b242_0), .val (.ref b244_0), .val (.int x3), .val (.ref b250), .val (.ref b257), .val (.int (((x4.toUInt32 >>> ((6 : Int32) &&& 31).toUInt32).toInt32) &&& (3 : Int32))), .unset] []))
      refine own_go (fun _ hr => XS.aload X262.here hx rfl (hb hby at_178) rfl rfl (XS.aload X262.here hx rfl (hb hby at_180) rfl rfl hr)) ?_
      show own_Go p e below _ (T262.setTop (mkF m 182 #[.val (.int x0), .val (.int x1), .val (.int x2), .val (.int x3), .val (.int x4), .val (.int ((x4 &&& (3 : Int32)) % (3 : Int32))), .val (.int (1 : Int32)), .val (.int ((((x4.toUInt32 >>> ((3 : Int32) &&& 31).toUInt32).toInt32) &&& (3 : Int32)) % (3 : Int32))), .val (.ref b242_0), .val (.ref b244_0), .val (.int x3), .val (.ref b250), .val (.ref b257), .val (.int (((x4.toUInt32 >>> ((6 : Int32) &&& 31).toUInt32).toInt32) &&& (3 : Int32))), .unset] [(.ref b250), (.ref b250)]))
      have Z308 := (Nat.le_trans Z263 K262.1)
      have f309 := (((A250.keep K255).ext E257).keep K262)
      refine own_cv X262 hx hZ hown (notFace_of_selects (args := #[]) (mvT hZ (hw _ (own_m 40 rfl)))) (hw _ (own_m 37 rfl)) (hw _ (own_m 38 rfl)) (hw _ (own_m 40 rfl)) (hw _ (own_m 39 rfl)) (hw _ (own_m 28 rfl)) (hw _ (own_m 41 rfl)) (by decide) f309 (rm := { frames := 0, cells := 0, slots := 0, locals := 0 }) (rm_equals_20 l Z a0 hw [] b250 T262.heap n0 Z308 ) (by decide) (W := 0) (by decide) (by decide) (by decide) rfl (by rw [hml]; rfl) (argsL := [(.ref b250)]) (lenOf own_pd8 rfl) (rest := []) rfl rfl (Nat.le_of_eq rfl) (hb hby at_182) ?_
      intro _ T307 L307 X307 hQ307
      obtain ⟨rfl, N307q, e307⟩ := hQ307
      have N307 := Fr.app N262 N307q
      show own_Go p e below _ (T307.setTop (mkF m 185 #[.val (.int x0), .val (.int x1), .val (.int x2), .val (.int x3), .val (.int x4), .val (.int ((x4 &&& (3 : Int32)) % (3 : Int32))), .val (.int (1 : Int32)), .val (.int ((((x4.toUInt32 >>> ((3 : Int32) &&& 31).toUInt32).toInt32) &&& (3 : Int32)) % (3 : Int32))), .val (.ref b242_0), .val (.ref b244_0), .val (.int x3), .val (.ref b250), .val (.ref b257), .val (.int (((x4.toUInt32 >>> ((6 : Int32) &&& 31).toUInt32).toInt32) &&& (3 : Int32))), .unset] [(.int (1 : Int32))]))
      have hk310 := (Nat.le_trans (Nat.le_trans (Nat.le_trans (Nat.le_trans (Nat.le_refl _) E250.1) K255.1) E257.1) K262.1)
      have A311 := A248.trans Ac244
      have A312 := A311.trans (CHr.ext E250 A311.1)
      have sf314 := (Safe.ext E250 A311.1 (Safe.new (Nat.le_of_eq g250.symm)))
      have A313 := A312.trans (CHr.keep K255 (sfS sf314 sf0) A312.1)
      have A315 := A313.trans (CHr.ext E257 A313.1)
      have sf317 := (Safe.ext E257 A313.1 (Safe.new (Nat.le_of_eq g257.symm)))
      have A316 := A315.trans (CHr.keep K262 (sfS sf317 sf0) A315.1)
      exact own_retNW X307 hx hlk Bd.returns hS hk310 hZ hEL hh e307 A316 (t := .boolean) (by simp) (hb hby at_185) (by decide) (by decide) ⟨rfl, N307⟩
    refine own_go (fun _ hr => XS.icmpYes X262.here hx rfl (pc0 := 175) (pc' := 186) rfl (hb hby at_175) rfl (feq c306).2 (by decide) (by decide) hr) ?_
    show own_Go p e below _ (T262.setTop (mkF m 186 #[.val (.int x0), .val (.int x1), .val (.int x2), .val (.int x3), .val (.int x4), .val (.int ((x4 &&& (3 : Int32)) % (3 : Int32))), .val (.int (1 : Int32)), .val (.int ((((x4.toUInt32 >>> ((3 : Int32) &&& 31).toUInt32).toInt32) &&& (3 : Int32)) % (3 : Int32))), .val (.ref b242_0), .val (.ref b244_0), .val (.int x3), .val (.ref b250), .val (.ref b257), .val (.int (((x4.toUInt32 >>> ((6 : Int32) &&& 31).toUInt32).toInt32) &&& (3 : Int32))), .unset] []))
    refine own_go (fun _ hr => XS.iload X262.here hx rfl (hb hby at_186) rfl (XS.iconst X262.here hx rfl (hb hby at_188) hr)) ?_
    show own_Go p e below _ (T262.setTop (mkF m 189 #[.val (.int x0), .val (.int x1), .val (.int x2), .val (.int x3), .val (.int x4), .val (.int ((x4 &&& (3 : Int32)) % (3 : Int32))), .val (.int (1 : Int32)), .val (.int ((((x4.toUInt32 >>> ((3 : Int32) &&& 31).toUInt32).toInt32) &&& (3 : Int32)) % (3 : Int32))), .val (.ref b242_0), .val (.ref b244_0), .val (.int x3), .val (.ref b250), .val (.ref b257), .val (.int (((x4.toUInt32 >>> ((6 : Int32) &&& 31).toUInt32).toInt32) &&& (3 : Int32))), .unset] [(.int (2 : Int32)), (.int (((x4.toUInt32 >>> ((6 : Int32) &&& 31).toUInt32).toInt32) &&& (3 : Int32)))]))
    rcases Classical.em ((((x4.toUInt32 >>> ((6 : Int32) &&& 31).toUInt32).toInt32) &&& (3 : Int32)) = (2 : Int32)) with c318 | c318
    · skip
      refine own_go (fun _ hr => XS.icmpNo X262.here hx rfl (hb hby at_189) rfl (teq c318).2 hr) ?_
      show own_Go p e below _ (T262.setTop (mkF m 192 #[.val (.int x0), .val (.int x1), .val (.int x2), .val (.int x3), .val (.int x4), .val (.int ((x4 &&& (3 : Int32)) % (3 : Int32))), .val (.int (1 : Int32)), .val (.int ((((x4.toUInt32 >>> ((3 : Int32) &&& 31).toUInt32).toInt32) &&& (3 : Int32)) % (3 : Int32))), .val (.ref b242_0), .val (.ref b244_0), .val (.int x3), .val (.ref b250), .val (.ref b257), .val (.int (((x4.toUInt32 >>> ((6 : Int32) &&& 31).toUInt32).toInt32) &&& (3 : Int32))), .unset] []))
      refine own_go (fun _ hr => XS.aload X262.here hx rfl (hb hby at_192) rfl rfl (XS.aconstNull X262.here hx rfl (hb hby at_194) hr)) ?_
      show own_Go p e below _ (T262.setTop (mkF m 195 #[.val (.int x0), .val (.int x1), .val (.int x2), .val (.int x3), .val (.int x4), .val (.int ((x4 &&& (3 : Int32)) % (3 : Int32))), .val (.int (1 : Int32)), .val (.int ((((x4.toUInt32 >>> ((3 : Int32) &&& 31).toUInt32).toInt32) &&& (3 : Int32)) % (3 : Int32))), .val (.ref b242_0), .val (.ref b244_0), .val (.int x3), .val (.ref b250), .val (.ref b257), .val (.int (((x4.toUInt32 >>> ((6 : Int32) &&& 31).toUInt32).toInt32) &&& (3 : Int32))), .unset] [.null, (.ref b250)]))
      have Z320 := (Nat.le_trans Z263 K262.1)
      have f321 := (((A250.keep K255).ext E257).keep K262)
      refine own_cv X262 hx hZ hown (notFace_of_selects (args := #[]) (mvT hZ (hw _ (own_m 40 rfl)))) (hw _ (own_m 37 rfl)) (hw _ (own_m 38 rfl)) (hw _ (own_m 40 rfl)) (hw _ (own_m 39 rfl)) (hw _ (own_m 28 rfl)) (hw _ (own_m 41 rfl)) (by decide) f321 (rm := { frames := 0, cells := 0, slots := 0, locals := 0 }) (rm_equals_21 l Z a0 hw [] b250 T262.heap n0 Z320 ) (by decide) (W := 0) (by decide) (by decide) (by decide) rfl (by rw [hml]; rfl) (argsL := [.null]) (lenOf own_pd8 rfl) (rest := []) rfl rfl (Nat.le_of_eq rfl) (hb hby at_195) ?_
      intro _ T319 L319 X319 hQ319
      obtain ⟨rfl, N319q, e319⟩ := hQ319
      have N319 := Fr.app N262 N319q
      show own_Go p e below _ (T319.setTop (mkF m 198 #[.val (.int x0), .val (.int x1), .val (.int x2), .val (.int x3), .val (.int x4), .val (.int ((x4 &&& (3 : Int32)) % (3 : Int32))), .val (.int (1 : Int32)), .val (.int ((((x4.toUInt32 >>> ((3 : Int32) &&& 31).toUInt32).toInt32) &&& (3 : Int32)) % (3 : Int32))), .val (.ref b242_0), .val (.ref b244_0), .val (.int x3), .val (.ref b250), .val (.ref b257), .val (.int (((x4.toUInt32 >>> ((6 : Int32) &&& 31).toUInt32).toInt32) &&& (3 : Int32))), .unset] [(.int (0 : Int32))]))
      refine own_go (fun _ hr => XS.ifNo X319.here hx rfl (hb hby at_198) rfl ((if0 _ _).trans (teq (by decide)).2) (XS.iconst X319.here hx rfl (hb hby at_201) (XS.goto X319.here hx rfl (pc0 := 202) (pc' := 206) rfl (hb hby at_202) (by decide) (by decide) hr))) ?_
      show own_Go p e below _ (T319.setTop (mkF m 206 #[.val (.int x0), .val (.int x1), .val (.int x2), .val (.int x3), .val (.int x4), .val (.int ((x4 &&& (3 : Int32)) % (3 : Int32))), .val (.int (1 : Int32)), .val (.int ((((x4.toUInt32 >>> ((3 : Int32) &&& 31).toUInt32).toInt32) &&& (3 : Int32)) % (3 : Int32))), .val (.ref b242_0), .val (.ref b244_0), .val (.int x3), .val (.ref b250), .val (.ref b257), .val (.int (((x4.toUInt32 >>> ((6 : Int32) &&& 31).toUInt32).toInt32) &&& (3 : Int32))), .unset] [(.int (1 : Int32))]))
      have hk322 := (Nat.le_trans (Nat.le_trans (Nat.le_trans (Nat.le_trans (Nat.le_refl _) E250.1) K255.1) E257.1) K262.1)
      have A323 := A248.trans Ac244
      have A324 := A323.trans (CHr.ext E250 A323.1)
      have sf326 := (Safe.ext E250 A323.1 (Safe.new (Nat.le_of_eq g250.symm)))
      have A325 := A324.trans (CHr.keep K255 (sfS sf326 sf0) A324.1)
      have A327 := A325.trans (CHr.ext E257 A325.1)
      have sf329 := (Safe.ext E257 A325.1 (Safe.new (Nat.le_of_eq g257.symm)))
      have A328 := A327.trans (CHr.keep K262 (sfS sf329 sf0) A327.1)
      exact own_retNW X319 hx hlk Bd.returns hS hk322 hZ hEL hh e319 A328 (t := .boolean) (by simp) (hb hby at_206) (by decide) (by decide) ⟨rfl, N319⟩
    refine own_go (fun _ hr => XS.icmpYes X262.here hx rfl (pc0 := 189) (pc' := 207) rfl (hb hby at_189) rfl (feq c318).2 (by decide) (by decide) hr) ?_
    show own_Go p e below _ (T262.setTop (mkF m 207 #[.val (.int x0), .val (.int x1), .val (.int x2), .val (.int x3), .val (.int x4), .val (.int ((x4 &&& (3 : Int32)) % (3 : Int32))), .val (.int (1 : Int32)), .val (.int ((((x4.toUInt32 >>> ((3 : Int32) &&& 31).toUInt32).toInt32) &&& (3 : Int32)) % (3 : Int32))), .val (.ref b242_0), .val (.ref b244_0), .val (.int x3), .val (.ref b250), .val (.ref b257), .val (.int (((x4.toUInt32 >>> ((6 : Int32) &&& 31).toUInt32).toInt32) &&& (3 : Int32))), .unset] []))
    refine own_go (fun _ hr => XS.aload X262.here hx rfl (hb hby at_207) rfl rfl (XS.aload X262.here hx rfl (hb hby at_209) rfl rfl hr)) ?_
    show own_Go p e below _ (T262.setTop (mkF m 211 #[.val (.int x0), .val (.int x1), .val (.int x2), .val (.int x3), .val (.int x4), .val (.int ((x4 &&& (3 : Int32)) % (3 : Int32))), .val (.int (1 : Int32)), .val (.int ((((x4.toUInt32 >>> ((3 : Int32) &&& 31).toUInt32).toInt32) &&& (3 : Int32)) % (3 : Int32))), .val (.ref b242_0), .val (.ref b244_0), .val (.int x3), .val (.ref b250), .val (.ref b257), .val (.int (((x4.toUInt32 >>> ((6 : Int32) &&& 31).toUInt32).toInt32) &&& (3 : Int32))), .unset] [(.ref b242_0), (.ref b250)]))
    have f331 := (((((f242_0.keep K244).ext E250).keep K255).ext E257).keep K262)
    have Z332 := (Nat.le_trans Z263 K262.1)
    have f333 := (((A250.keep K255).ext E257).keep K262)
    refine own_cv X262 hx hZ hown (notFace_of_selects (args := #[]) (mvT hZ (hw _ (own_m 40 rfl)))) (hw _ (own_m 37 rfl)) (hw _ (own_m 38 rfl)) (hw _ (own_m 40 rfl)) (hw _ (own_m 39 rfl)) (hw _ (own_m 28 rfl)) (hw _ (own_m 41 rfl)) (by decide) f333 (rm := { frames := 0, cells := 0, slots := 0, locals := 0 }) (rm_equals_22 l Z a0 hw [] b250 b242_0 T262.heap n0 Z332 f331 (Ne.symm (Nat.ne_of_lt (Nat.lt_of_lt_of_le (f242_0.keep K244).lt (Nat.le_of_eq g250.symm))))) (by decide) (W := 0) (by decide) (by decide) (by decide) rfl (by rw [hml]; rfl) (argsL := [(.ref b242_0)]) (lenOf own_pd8 rfl) (rest := []) rfl rfl (Nat.le_of_eq rfl) (hb hby at_211) ?_
    intro _ T330 L330 X330 hQ330
    obtain ⟨rfl, N330q, e330⟩ := hQ330
    have N330 := Fr.app N262 N330q
    show own_Go p e below _ (T330.setTop (mkF m 214 #[.val (.int x0), .val (.int x1), .val (.int x2), .val (.int x3), .val (.int x4), .val (.int ((x4 &&& (3 : Int32)) % (3 : Int32))), .val (.int (1 : Int32)), .val (.int ((((x4.toUInt32 >>> ((3 : Int32) &&& 31).toUInt32).toInt32) &&& (3 : Int32)) % (3 : Int32))), .val (.ref b242_0), .val (.ref b244_0), .val (.int x3), .val (.ref b250), .val (.ref b257), .val (.int (((x4.toUInt32 >>> ((6 : Int32) &&& 31).toUInt32).toInt32) &&& (3 : Int32))), .unset] [(.int (0 : Int32))]))
    refine own_go (fun _ hr => XS.ifNo X330.here hx rfl (hb hby at_214) rfl ((if0 _ _).trans (teq (by decide)).2) (XS.iconst X330.here hx rfl (hb hby at_217) (XS.goto X330.here hx rfl (pc0 := 218) (pc' := 222) rfl (hb hby at_218) (by decide) (by decide) hr))) ?_
    show own_Go p e below _ (T330.setTop (mkF m 222 #[.val (.int x0), .val (.int x1), .val (.int x2), .val (.int x3), .val (.int x4), .val (.int ((x4 &&& (3 : Int32)) % (3 : Int32))), .val (.int (1 : Int32)), .val (.int ((((x4.toUInt32 >>> ((3 : Int32) &&& 31).toUInt32).toInt32) &&& (3 : Int32)) % (3 : Int32))), .val (.ref b242_0), .val (.ref b244_0), .val (.int x3), .val (.ref b250), .val (.ref b257), .val (.int (((x4.toUInt32 >>> ((6 : Int32) &&& 31).toUInt32).toInt32) &&& (3 : Int32))), .unset] [(.int (1 : Int32))]))
    have hk334 := (Nat.le_trans (Nat.le_trans (Nat.le_trans (Nat.le_trans (Nat.le_refl _) E250.1) K255.1) E257.1) K262.1)
    have A335 := A248.trans Ac244
    have A336 := A335.trans (CHr.ext E250 A335.1)
    have sf338 := (Safe.ext E250 A335.1 (Safe.new (Nat.le_of_eq g250.symm)))
    have A337 := A336.trans (CHr.keep K255 (sfS sf338 sf0) A336.1)
    have A339 := A337.trans (CHr.ext E257 A337.1)
    have sf341 := (Safe.ext E257 A337.1 (Safe.new (Nat.le_of_eq g257.symm)))
    have A340 := A339.trans (CHr.keep K262 (sfS sf341 sf0) A339.1)
    exact own_retNW X330 hx hlk Bd.returns hS hk334 hZ hEL hh e330 A340 (t := .boolean) (by simp) (hb hby at_222) (by decide) (by decide) ⟨rfl, N330⟩
  refine own_go (fun _ hr => XS.ifNo X244.here hx rfl (hb hby at_70) rfl ((if0 _ _).trans (feq c249).1) hr) ?_
  show own_Go p e below _ (T244.setTop (mkF m 73 #[.val (.int x0), .val (.int x1), .val (.int x2), .val (.int x3), .val (.int x4), .val (.int ((x4 &&& (3 : Int32)) % (3 : Int32))), .val (.int (1 : Int32)), .val (.int ((((x4.toUInt32 >>> ((3 : Int32) &&& 31).toUInt32).toInt32) &&& (3 : Int32)) % (3 : Int32))), .val (.ref b242_0), .val (.ref b244_0), .unset, .unset, .unset, .unset, .unset] []))
  refine own_go (fun _ hr => XS.iloadN X244.here hx rfl (hb hby at_73) rfl (XS.goto X244.here hx rfl (pc0 := 74) (pc' := 78) rfl (hb hby at_74) (by decide) (by decide) (XS.istore X244.here hx rfl (hb hby at_78) rfl (l' := #[.val (.int x0), .val (.int x1), .val (.int x2), .val (.int x3), .val (.int x4), .val (.int ((x4 &&& (3 : Int32)) % (3 : Int32))), .val (.int (1 : Int32)), .val (.int ((((x4.toUInt32 >>> ((3 : Int32) &&& 31).toUInt32).toInt32) &&& (3 : Int32)) % (3 : Int32))), .val (.ref b242_0), .val (.ref b244_0), .val (.int x2), .unset, .unset, .unset, .unset]) rfl hr))) ?_
  show own_Go p e below _ (T244.setTop (mkF m 80 #[.val (.int x0), .val (.int x1), .val (.int x2), .val (.int x3), .val (.int x4), .val (.int ((x4 &&& (3 : Int32)) % (3 : Int32))), .val (.int (1 : Int32)), .val (.int ((((x4.toUInt32 >>> ((3 : Int32) &&& 31).toUInt32).toInt32) &&& (3 : Int32)) % (3 : Int32))), .val (.ref b242_0), .val (.ref b244_0), .val (.int x2), .unset, .unset, .unset, .unset] []))
  obtain ⟨T342, h342, X342, e342, E342, A342, D342, -, st342⟩ := newO X244 hx hZ hown (hw _ (own_m 26 rfl)) (hw _ (own_m 27 rfl)) (hw _ (own_m 28 rfl)) rfl (g := (mkF m 80 #[.val (.int x0), .val (.int x1), .val (.int x2), .val (.int x3), .val (.int x4), .val (.int ((x4 &&& (3 : Int32)) % (3 : Int32))), .val (.int (1 : Int32)), .val (.int ((((x4.toUInt32 >>> ((3 : Int32) &&& 31).toUInt32).toInt32) &&& (3 : Int32)) % (3 : Int32))), .val (.ref b242_0), .val (.ref b244_0), .val (.int x2), .unset, .unset, .unset, .unset] [])) rfl (hb hby at_80) (by decide) (by decide)
  obtain ⟨b342, g342⟩ : ∃ z, z = T244.heap.size := ⟨_, rfl⟩
  rw [← g342] at A342 D342 st342
  have Z343 := (Nat.le_trans Z246 K244.1)
  have ge344 : n0 ≤ b342 := Nat.le_trans Z343 (Nat.le_of_eq g342.symm)
  refine own_go st342 ?_
  have f345 : Fld Z h342 b342 "com/example/appenddb/appenddb/TopicQueue" "topic" "Ljava/lang/String;" .null := D342 (Or.inr (hw _ (own_m 34 rfl))) (ty := (.object "java/lang/String")) (by decide)
  have f346 : Fld Z h342 b342 "com/example/appenddb/appenddb/TopicQueue" "queueId" "I" (.int (0 : Int32)) := D342 (Or.inr (hw _ (own_m 36 rfl))) (ty := .int) (by decide)
  show own_Go p e below _ (T342.setTop (mkF m 83 #[.val (.int x0), .val (.int x1), .val (.int x2), .val (.int x3), .val (.int x4), .val (.int ((x4 &&& (3 : Int32)) % (3 : Int32))), .val (.int (1 : Int32)), .val (.int ((((x4.toUInt32 >>> ((3 : Int32) &&& 31).toUInt32).toInt32) &&& (3 : Int32)) % (3 : Int32))), .val (.ref b242_0), .val (.ref b244_0), .val (.int x2), .unset, .unset, .unset, .unset] [(.ref b342)]))
  refine own_go (fun _ hr => XS.dup X342.here hx rfl (hb hby at_83) rfl rfl (XS.aload X342.here hx rfl (hb hby at_84) rfl rfl (XS.iloadN X342.here hx rfl (hb hby at_86) rfl hr))) ?_
  show own_Go p e below _ (T342.setTop (mkF m 87 #[.val (.int x0), .val (.int x1), .val (.int x2), .val (.int x3), .val (.int x4), .val (.int ((x4 &&& (3 : Int32)) % (3 : Int32))), .val (.int (1 : Int32)), .val (.int ((((x4.toUInt32 >>> ((3 : Int32) &&& 31).toUInt32).toInt32) &&& (3 : Int32)) % (3 : Int32))), .val (.ref b242_0), .val (.ref b244_0), .val (.int x2), .unset, .unset, .unset, .unset] [(.int x2), (.ref b242_0), (.ref b342), (.ref b342)]))
  have Z348 := (Nat.le_trans Z343 E342.1)
  refine own_cp X342 hx hZ hown rfl (hw _ (own_m 29 rfl)) (hw _ (own_m 30 rfl)) (hw _ (own_m 28 rfl)) (hw _ (own_m 31 rfl)) (by decide) (rm := { frames := 1, cells := 0, slots := 0, locals := 12 }) (rm_init_14 l Z a0 hw [] b342 b242_0 x2 h342 n0 Z348 A342 f345 f346 ge344) (by decide) (W := 1) (by decide) (by decide) (by decide) e342 (by rw [hml]; rfl) (argsL := [(.ref b242_0), (.int x2)]) (lenOf own_pd6 rfl) (rest := [(.ref b342)]) rfl rfl (Nat.le_of_eq rfl) (hb hby at_87) ?_
  intro _ T347 L347 X347 hQ347
  obtain ⟨rfl, N347q, K347, f347_0, f347_1⟩ := hQ347
  have N347 := Fr.app N244 N347q
  show own_Go p e below _ (T347.setTop (mkF m 90 #[.val (.int x0), .val (.int x1), .val (.int x2), .val (.int x3), .val (.int x4), .val (.int ((x4 &&& (3 : Int32)) % (3 : Int32))), .val (.int (1 : Int32)), .val (.int ((((x4.toUInt32 >>> ((3 : Int32) &&& 31).toUInt32).toInt32) &&& (3 : Int32)) % (3 : Int32))), .val (.ref b242_0), .val (.ref b244_0), .val (.int x2), .unset, .unset, .unset, .unset] [(.ref b342)]))
  refine own_go (fun _ hr => XS.astore X347.here hx rfl (hb hby at_90) rfl rfl (l' := #[.val (.int x0), .val (.int x1), .val (.int x2), .val (.int x3), .val (.int x4), .val (.int ((x4 &&& (3 : Int32)) % (3 : Int32))), .val (.int (1 : Int32)), .val (.int ((((x4.toUInt32 >>> ((3 : Int32) &&& 31).toUInt32).toInt32) &&& (3 : Int32)) % (3 : Int32))), .val (.ref b242_0), .val (.ref b244_0), .val (.int x2), .val (.ref b342), .unset, .unset, .unset]) rfl hr) ?_
  show own_Go p e below _ (T347.setTop (mkF m 92 #[.val (.int x0), .val (.int x1), .val (.int x2), .val (.int x3), .val (.int x4), .val (.int ((x4 &&& (3 : Int32)) % (3 : Int32))), .val (.int (1 : Int32)), .val (.int ((((x4.toUInt32 >>> ((3 : Int32) &&& 31).toUInt32).toInt32) &&& (3 : Int32)) % (3 : Int32))), .val (.ref b242_0), .val (.ref b244_0), .val (.int x2), .val (.ref b342), .unset, .unset, .unset] []))
  obtain ⟨T349, h349, X349, e349, E349, A349, D349, -, st349⟩ := newO X347 hx hZ hown (hw _ (own_m 26 rfl)) (hw _ (own_m 27 rfl)) (hw _ (own_m 28 rfl)) rfl (g := (mkF m 92 #[.val (.int x0), .val (.int x1), .val (.int x2), .val (.int x3), .val (.int x4), .val (.int ((x4 &&& (3 : Int32)) % (3 : Int32))), .val (.int (1 : Int32)), .val (.int ((((x4.toUInt32 >>> ((3 : Int32) &&& 31).toUInt32).toInt32) &&& (3 : Int32)) % (3 : Int32))), .val (.ref b242_0), .val (.ref b244_0), .val (.int x2), .val (.ref b342), .unset, .unset, .unset] [])) rfl (hb hby at_92) (by decide) (by decide)
  obtain ⟨b349, g349⟩ : ∃ z, z = T347.heap.size := ⟨_, rfl⟩
  rw [← g349] at A349 D349 st349
  have Z350 := (Nat.le_trans Z348 K347.1)
  have ge351 : n0 ≤ b349 := Nat.le_trans Z350 (Nat.le_of_eq g349.symm)
  refine own_go st349 ?_
  have f352 : Fld Z h349 b349 "com/example/appenddb/appenddb/TopicQueue" "topic" "Ljava/lang/String;" .null := D349 (Or.inr (hw _ (own_m 34 rfl))) (ty := (.object "java/lang/String")) (by decide)
  have f353 : Fld Z h349 b349 "com/example/appenddb/appenddb/TopicQueue" "queueId" "I" (.int (0 : Int32)) := D349 (Or.inr (hw _ (own_m 36 rfl))) (ty := .int) (by decide)
  show own_Go p e below _ (T349.setTop (mkF m 95 #[.val (.int x0), .val (.int x1), .val (.int x2), .val (.int x3), .val (.int x4), .val (.int ((x4 &&& (3 : Int32)) % (3 : Int32))), .val (.int (1 : Int32)), .val (.int ((((x4.toUInt32 >>> ((3 : Int32) &&& 31).toUInt32).toInt32) &&& (3 : Int32)) % (3 : Int32))), .val (.ref b242_0), .val (.ref b244_0), .val (.int x2), .val (.ref b342), .unset, .unset, .unset] [(.ref b349)]))
  refine own_go (fun _ hr => XS.dup X349.here hx rfl (hb hby at_95) rfl rfl (XS.aload X349.here hx rfl (hb hby at_96) rfl rfl (XS.iload X349.here hx rfl (hb hby at_98) rfl hr))) ?_
  show own_Go p e below _ (T349.setTop (mkF m 100 #[.val (.int x0), .val (.int x1), .val (.int x2), .val (.int x3), .val (.int x4), .val (.int ((x4 &&& (3 : Int32)) % (3 : Int32))), .val (.int (1 : Int32)), .val (.int ((((x4.toUInt32 >>> ((3 : Int32) &&& 31).toUInt32).toInt32) &&& (3 : Int32)) % (3 : Int32))), .val (.ref b242_0), .val (.ref b244_0), .val (.int x2), .val (.ref b342), .unset, .unset, .unset] [(.int x2), (.ref b244_0), (.ref b349), (.ref b349)]))
  have Z355 := (Nat.le_trans Z350 E349.1)
  refine own_cp X349 hx hZ hown rfl (hw _ (own_m 29 rfl)) (hw _ (own_m 30 rfl)) (hw _ (own_m 28 rfl)) (hw _ (own_m 31 rfl)) (by decide) (rm := { frames := 1, cells := 0, slots := 0, locals := 12 }) (rm_init_14 l Z a0 hw [] b349 b244_0 x2 h349 n0 Z355 A349 f352 f353 ge351) (by decide) (W := 1) (by decide) (by decide) (by decide) e349 (by rw [hml]; rfl) (argsL := [(.ref b244_0), (.int x2)]) (lenOf own_pd6 rfl) (rest := [(.ref b349)]) rfl rfl (Nat.le_of_eq rfl) (hb hby at_100) ?_
  intro _ T354 L354 X354 hQ354
  obtain ⟨rfl, N354q, K354, f354_0, f354_1⟩ := hQ354
  have N354 := Fr.app N347 N354q
  show own_Go p e below _ (T354.setTop (mkF m 103 #[.val (.int x0), .val (.int x1), .val (.int x2), .val (.int x3), .val (.int x4), .val (.int ((x4 &&& (3 : Int32)) % (3 : Int32))), .val (.int (1 : Int32)), .val (.int ((((x4.toUInt32 >>> ((3 : Int32) &&& 31).toUInt32).toInt32) &&& (3 : Int32)) % (3 : Int32))), .val (.ref b242_0), .val (.ref b244_0), .val (.int x2), .val (.ref b342), .unset, .unset, .unset] [(.ref b349)]))
  refine own_go (fun _ hr => XS.astore X354.here hx rfl (hb hby at_103) rfl rfl (l' := #[.val (.int x0), .val (.int x1), .val (.int x2), .val (.int x3), .val (.int x4), .val (.int ((x4 &&& (3 : Int32)) % (3 : Int32))), .val (.int (1 : Int32)), .val (.int ((((x4.toUInt32 >>> ((3 : Int32) &&& 31).toUInt32).toInt32) &&& (3 : Int32)) % (3 : Int32))), .val (.ref b242_0), .val (.ref b244_0), .val (.int x2), .val (.ref b342), .val (.ref b349), .unset, .unset]) rfl (XS.iload X354.here hx rfl (hb hby at_105) rfl (XS.bipush X354.here hx rfl (hb hby at_107) (XS.iushr X354.here hx rfl (hb hby at_109) rfl (XS.iconst X354.here hx rfl (hb hby at_110) (XS.iand X354.here hx rfl (hb hby at_111) rfl (XS.istore X354.here hx rfl (hb hby at_112) rfl (l' := #[.val (.int x0), .val (.int x1), .val (.int x2), .val (.int x3), .val (.int x4), .val (.int ((x4 &&& (3 : Int32)) % (3 : Int32))), .val (.int (1 : Int32)), .val (.int ((((x4.toUInt32 >>> ((3 : Int32) &&& 31).toUInt32).toInt32) &&& (3 : Int32)) % (3 : Int32))), .val (.ref b242_0), .val (.ref b244_0), .val (.int x2), .val (.ref b342), .val (.ref b349), .val (.int (((x4.toUInt32 >>> ((6 : Int32) &&& 31).toUInt32).toInt32) &&& (3 : Int32))), .unset]) rfl (XS.iload X354.here hx rfl (hb hby at_114) rfl hr)))))))) ?_
  show own_Go p e below _ (T354.setTop (mkF m 116 #[.val (.int x0), .val (.int x1), .val (.int x2), .val (.int x3), .val (.int x4), .val (.int ((x4 &&& (3 : Int32)) % (3 : Int32))), .val (.int (1 : Int32)), .val (.int ((((x4.toUInt32 >>> ((3 : Int32) &&& 31).toUInt32).toInt32) &&& (3 : Int32)) % (3 : Int32))), .val (.ref b242_0), .val (.ref b244_0), .val (.int x2), .val (.ref b342), .val (.ref b349), .val (.int (((x4.toUInt32 >>> ((6 : Int32) &&& 31).toUInt32).toInt32) &&& (3 : Int32))), .unset] [(.int (((x4.toUInt32 >>> ((6 : Int32) &&& 31).toUInt32).toInt32) &&& (3 : Int32)))]))
  rcases Classical.em ((((x4.toUInt32 >>> ((6 : Int32) &&& 31).toUInt32).toInt32) &&& (3 : Int32)) = (0 : Int32)) with c356 | c356
  · skip
    refine own_go (fun _ hr => XS.ifNo X354.here hx rfl (hb hby at_116) rfl ((if0 _ _).trans (teq c356).2) hr) ?_
    show own_Go p e below _ (T354.setTop (mkF m 119 #[.val (.int x0), .val (.int x1), .val (.int x2), .val (.int x3), .val (.int x4), .val (.int ((x4 &&& (3 : Int32)) % (3 : Int32))), .val (.int (1 : Int32)), .val (.int ((((x4.toUInt32 >>> ((3 : Int32) &&& 31).toUInt32).toInt32) &&& (3 : Int32)) % (3 : Int32))), .val (.ref b242_0), .val (.ref b244_0), .val (.int x2), .val (.ref b342), .val (.ref b349), .val (.int (((x4.toUInt32 >>> ((6 : Int32) &&& 31).toUInt32).toInt32) &&& (3 : Int32))), .unset] []))
    refine own_go (fun _ hr => XS.iloadN X354.here hx rfl (hb hby at_119) rfl (XS.iload X354.here hx rfl (hb hby at_120) rfl (XS.icmpNo X354.here hx rfl (hb hby at_122) rfl (teq rfl).2 (XS.aload X354.here hx rfl (hb hby at_125) rfl rfl (XS.aload X354.here hx rfl (hb hby at_127) rfl rfl hr))))) ?_
    show own_Go p e below _ (T354.setTop (mkF m 129 #[.val (.int x0), .val (.int x1), .val (.int x2), .val (.int x3), .val (.int x4), .val (.int ((x4 &&& (3 : Int32)) % (3 : Int32))), .val (.int (1 : Int32)), .val (.int ((((x4.toUInt32 >>> ((3 : Int32) &&& 31).toUInt32).toInt32) &&& (3 : Int32)) % (3 : Int32))), .val (.ref b242_0), .val (.ref b244_0), .val (.int x2), .val (.ref b342), .val (.ref b349), .val (.int (((x4.toUInt32 >>> ((6 : Int32) &&& 31).toUInt32).toInt32) &&& (3 : Int32))), .unset] [(.ref b244_0), (.ref b242_0)]))
    have c357 : ¬ ((own_leq x0 ((x4 &&& (3 : Int32)) % (3 : Int32)) x0 ((x4 &&& (3 : Int32)) % (3 : Int32))) = (0 : Int32)) := by rw [own_leq_self]; decide
    have f359 := ((((f244_0.ext E342).keep K347).ext E349).keep K354)
    have f360 := (own_sta_keep ((own_sta_keep ((own_sta_keep f245 K244 all0).ext E342) K347 (allS (own_ns_exa A342) all0)).ext E349) K354 (allS (own_ns_exa A349) all0))
    have f361 := (((((f242_1.keep K244 nin0).ext E342).keep K347 (ninS (Nat.ne_of_lt (Nat.lt_of_lt_of_le (f242_0.keep K244).lt (Nat.le_of_eq g342.symm))) nin0)).ext E349).keep K354 (ninS (Nat.ne_of_lt (Nat.lt_of_lt_of_le (((f242_0.keep K244).ext E342).keep K347).lt (Nat.le_of_eq g349.symm))) nin0))
    have f362 := ((((f244_1.ext E342).keep K347 (ninS (Nat.ne_of_lt (Nat.lt_of_lt_of_le f244_0.lt (Nat.le_of_eq g342.symm))) nin0)).ext E349).keep K354 (ninS (Nat.ne_of_lt (Nat.lt_of_lt_of_le ((f244_0.ext E342).keep K347).lt (Nat.le_of_eq g349.symm))) nin0))
    have f363 := (((((f242_2.keep K244 nin0).ext E342).keep K347 (ninS (Nat.ne_of_lt (Nat.lt_of_lt_of_le (f242_0.keep K244).lt (Nat.le_of_eq g342.symm))) nin0)).ext E349).keep K354 (ninS (Nat.ne_of_lt (Nat.lt_of_lt_of_le (((f242_0.keep K244).ext E342).keep K347).lt (Nat.le_of_eq g349.symm))) nin0))
    have f364 := ((((f244_2.ext E342).keep K347 (ninS (Nat.ne_of_lt (Nat.lt_of_lt_of_le f244_0.lt (Nat.le_of_eq g342.symm))) nin0)).ext E349).keep K354 (ninS (Nat.ne_of_lt (Nat.lt_of_lt_of_le ((f244_0.ext E342).keep K347).lt (Nat.le_of_eq g349.symm))) nin0))
    have f365 := (((((f242_3.keep K244 nin0).ext E342).keep K347 (ninS (Nat.ne_of_lt (Nat.lt_of_lt_of_le (f242_3.keep K244 nin0).lt (Nat.le_of_eq g342.symm))) nin0)).ext E349).keep K354 (ninS (Nat.ne_of_lt (Nat.lt_of_lt_of_le (((f242_3.keep K244 nin0).ext E342).keep K347 (ninS (Nat.ne_of_lt (Nat.lt_of_lt_of_le (f242_3.keep K244 nin0).lt (Nat.le_of_eq g342.symm))) nin0)).lt (Nat.le_of_eq g349.symm))) nin0))
    have f366 := ((((f244_3.ext E342).keep K347 (ninS (Nat.ne_of_lt (Nat.lt_of_lt_of_le f244_3.lt (Nat.le_of_eq g342.symm))) nin0)).ext E349).keep K354 (ninS (Nat.ne_of_lt (Nat.lt_of_lt_of_le ((f244_3.ext E342).keep K347 (ninS (Nat.ne_of_lt (Nat.lt_of_lt_of_le f244_3.lt (Nat.le_of_eq g342.symm))) nin0)).lt (Nat.le_of_eq g349.symm))) nin0))
    have Z367 := (Nat.le_trans Z355 K354.1)
    have f368 := (((((f242_0.keep K244).ext E342).keep K347).ext E349).keep K354)
    refine own_cv X354 hx hZ hown (notFace_of_selects (args := #[]) (mvT hZ (hw _ (own_m 58 rfl)))) (hw _ (own_m 55 rfl)) (hw _ (own_m 56 rfl)) (hw _ (own_m 58 rfl)) (hw _ (own_m 57 rfl)) (hw _ (own_m 6 rfl)) (hw _ (own_m 59 rfl)) (by decide) f368 (rm := { frames := 1, cells := 0, slots := 0, locals := 14 }) (rm_equals_25 l Z a0 hw [] b242_0 b244_0 i_COMPACT_STRINGS b242_1 b244_1 ((x4 &&& (3 : Int32)) % (3 : Int32)) x0 kb242_0 kb244_0 T354.heap n0 Z367 f359 f360 f361 f362 f363 f364 f365 f366 (Nat.ne_of_lt (Nat.lt_of_lt_of_le f242_0.lt sz244_0)) hs_COMPACT_STRINGS c241 c240 c357) (by decide) (W := 0) (by decide) (by decide) (by decide) rfl (by rw [hml]; rfl) (argsL := [(.ref b244_0)]) (lenOf own_pd8 rfl) (rest := []) rfl rfl (Nat.le_of_eq rfl) (hb hby at_129) ?_
    intro _ T358 L358 X358 hQ358
    obtain ⟨rfl, N358q, e358⟩ := hQ358
    have N358 := Fr.app N354 N358q
    show own_Go p e below _ (T358.setTop (mkF m 132 #[.val (.int x0), .val (.int x1), .val (.int x2), .val (.int x3), .val (.int x4), .val (.int ((x4 &&& (3 : Int32)) % (3 : Int32))), .val (.int (1 : Int32)), .val (.int ((((x4.toUInt32 >>> ((3 : Int32) &&& 31).toUInt32).toInt32) &&& (3 : Int32)) % (3 : Int32))), .val (.ref b242_0), .val (.ref b244_0), .val (.int x2), .val (.ref b342), .val (.ref b349), .val (.int (((x4.toUInt32 >>> ((6 : Int32) &&& 31).toUInt32).toInt32) &&& (3 : Int32))), .unset] [(.int (1 : Int32))]))
    refine own_go (fun _ hr => XS.ifNo X358.here hx rfl (hb hby at_132) rfl ((if0 _ _).trans (feq (by decide)).1) (XS.iconst X358.here hx rfl (hb hby at_135) (XS.goto X358.here hx rfl (pc0 := 136) (pc' := 140) rfl (hb hby at_136) (by decide) (by decide) (XS.istore X358.here hx rfl (hb hby at_140) rfl (l' := #[.val (.int x0), .val (.int x1), .val (.int x2), .val (.int x3), .val (.int x4), .val (.int ((x4 &&& (3 : Int32)) % (3 : Int32))), .val (.int (1 : Int32)), .val (.int ((((x4.toUInt32 >>> ((3 : Int32) &&& 31).toUInt32).toInt32) &&& (3 : Int32)) % (3 : Int32))), .val (.ref b242_0), .val (.ref b244_0), .val (.int x2), .val (.ref b342), .val (.ref b349), .val (.int (((x4.toUInt32 >>> ((6 : Int32) &&& 31).toUInt32).toInt32) &&& (3 : Int32))), .val (.int (1 : Int32))]) rfl (XS.aload X358.here hx rfl (hb hby at_142) rfl rfl (XS.aload X358.here hx rfl (hb hby at_144) rfl rfl hr)))))) ?_
    show own_Go p e below _ (T358.setTop (mkF m 146 #[.val (.int x0), .val (.int x1), .val (.int x2), .val (.int x3), .val (.int x4), .val (.int ((x4 &&& (3 : Int32)) % (3 : Int32))), .val (.int (1 : Int32)), .val (.int ((((x4.toUInt32 >>> ((3 : Int32) &&& 31).toUInt32).toInt32) &&& (3 : Int32)) % (3 : Int32))), .val (.ref b242_0), .val (.ref b244_0), .val (.int x2), .val (.ref b342), .val (.ref b349), .val (.int (((x4.toUInt32 >>> ((6 : Int32) &&& 31).toUInt32).toInt32) &&& (3 : Int32))), .val (.int (1 : Int32))] [(.ref b349), (.ref b342)]))
    have f370 := (A349.keep K354)
    have f371 := ((f347_0.ext E349).keep K354 (ninS (Nat.ne_of_lt (Nat.lt_of_lt_of_le (A342.keep K347).lt (Nat.le_of_eq g349.symm))) nin0))
    have f372 := ((f347_1.ext E349).keep K354 (ninS (Nat.ne_of_lt (Nat.lt_of_lt_of_le (A342.keep K347).lt (Nat.le_of_eq g349.symm))) nin0))
    have f373 := (((A342.keep K347).ext E349).keep K354)
    refine own_cv X358 hx hZ hown (notFace_of_selects (args := #[]) (mvT hZ (hw _ (own_m 40 rfl)))) (hw _ (own_m 37 rfl)) (hw _ (own_m 38 rfl)) (hw _ (own_m 40 rfl)) (hw _ (own_m 39 rfl)) (hw _ (own_m 28 rfl)) (hw _ (own_m 41 rfl)) (by decide) f373 (rm := { frames := 2, cells := 0, slots := 0, locals := 28 }) (rm_equals_27 l Z a0 hw [] b342 b349 x2 b242_0 b244_0 i_COMPACT_STRINGS b242_1 b244_1 ((x4 &&& (3 : Int32)) % (3 : Int32)) x0 kb242_0 kb244_0 T354.heap n0 Z367 f370 f371 f354_0 f372 f354_1 f359 f360 f361 f362 f363 f364 f365 f366 f368 (Nat.ne_of_lt (Nat.lt_of_lt_of_le (A342.keep K347).lt (Nat.le_of_eq g349.symm))) (Nat.ne_of_lt (Nat.lt_of_lt_of_le f242_0.lt sz244_0)) hs_COMPACT_STRINGS c241 c240 c357) (by decide) (W := 0) (by decide) (by decide) (by decide) e358 (by rw [hml]; rfl) (argsL := [(.ref b349)]) (lenOf own_pd8 rfl) (rest := []) rfl rfl (Nat.le_of_eq rfl) (hb hby at_146) ?_
    intro _ T369 L369 X369 hQ369
    obtain ⟨rfl, N369q, e369⟩ := hQ369
    have N369 := Fr.app N358 N369q
    show own_Go p e below _ (T369.setTop (mkF m 149 #[.val (.int x0), .val (.int x1), .val (.int x2), .val (.int x3), .val (.int x4), .val (.int ((x4 &&& (3 : Int32)) % (3 : Int32))), .val (.int (1 : Int32)), .val (.int ((((x4.toUInt32 >>> ((3 : Int32) &&& 31).toUInt32).toInt32) &&& (3 : Int32)) % (3 : Int32))), .val (.ref b242_0), .val (.ref b244_0), .val (.int x2), .val (.ref b342), .val (.ref b349), .val (.int (((x4.toUInt32 >>> ((6 : Int32) &&& 31).toUInt32).toInt32) &&& (3 : Int32))), .val (.int (1 : Int32))] [(.int (1 : Int32))]))
    refine own_go (fun _ hr => XS.iload X369.here hx rfl (hb hby at_149) rfl (XS.icmpNo X369.here hx rfl (hb hby at_151) rfl (teq (by decide)).2 (XS.aload X369.here hx rfl (hb hby at_154) rfl rfl (XS.aload X369.here hx rfl (hb hby at_156) rfl rfl hr)))) ?_
    show own_Go p e below _ (T369.setTop (mkF m 158 #[.val (.int x0), .val (.int x1), .val (.int x2), .val (.int x3), .val (.int x4), .val (.int ((x4 &&& (3 : Int32)) % (3 : Int32))), .val (.int (1 : Int32)), .val (.int ((((x4.toUInt32 >>> ((3 : Int32) &&& 31).toUInt32).toInt32) &&& (3 : Int32)) % (3 : Int32))), .val (.ref b242_0), .val (.ref b244_0), .val (.int x2), .val (.ref b342), .val (.ref b349), .val (.int (((x4.toUInt32 >>> ((6 : Int32) &&& 31).toUInt32).toInt32) &&& (3 : Int32))), .val (.int (1 : Int32))] [(.ref b342), (.ref b349)]))
    refine own_cv X369 hx hZ hown (notFace_of_selects (args := #[]) (mvT hZ (hw _ (own_m 40 rfl)))) (hw _ (own_m 37 rfl)) (hw _ (own_m 38 rfl)) (hw _ (own_m 40 rfl)) (hw _ (own_m 39 rfl)) (hw _ (own_m 28 rfl)) (hw _ (own_m 41 rfl)) (by decide) f370 (rm := { frames := 2, cells := 0, slots := 0, locals := 28 }) (rm_equals_27 l Z a0 hw [] b349 b342 x2 b244_0 b242_0 i_COMPACT_STRINGS b244_1 b242_1 ((x4 &&& (3 : Int32)) % (3 : Int32)) x0 kb244_0 kb242_0 T354.heap n0 Z367 f373 f354_0 f371 f354_1 f372 f368 f360 f362 f361 f364 f363 f366 f365 f359 (Ne.symm (Nat.ne_of_lt (Nat.lt_of_lt_of_le (A342.keep K347).lt (Nat.le_of_eq g349.symm)))) (Ne.symm (Nat.ne_of_lt (Nat.lt_of_lt_of_le f242_0.lt sz244_0))) hs_COMPACT_STRINGS c241 c240 c357) (by decide) (W := 0) (by decide) (by decide) (by decide) e369 (by rw [hml]; rfl) (argsL := [(.ref b342)]) (lenOf own_pd8 rfl) (rest := []) rfl rfl (Nat.le_of_eq rfl) (hb hby at_158) ?_
    intro _ T374 L374 X374 hQ374
    obtain ⟨rfl, N374q, e374⟩ := hQ374
    have N374 := Fr.app N369 N374q
    show own_Go p e below _ (T374.setTop (mkF m 161 #[.val (.int x0), .val (.int x1), .val (.int x2), .val (.int x3), .val (.int x4), .val (.int ((x4 &&& (3 : Int32)) % (3 : Int32))), .val (.int (1 : Int32)), .val (.int ((((x4.toUInt32 >>> ((3 : Int32) &&& 31).toUInt32).toInt32) &&& (3 : Int32)) % (3 : Int32))), .val (.ref b242_0), .val (.ref b244_0), .val (.int x2), .val (.ref b342), .val (.ref b349), .val (.int (((x4.toUInt32 >>> ((6 : Int32) &&& 31).toUInt32).toInt32) &&& (3 : Int32))), .val (.int (1 : Int32))] [(.int (1 : Int32))]))
    refine own_go (fun _ hr => XS.iload X374.here hx rfl (hb hby at_161) rfl (XS.icmpNo X374.here hx rfl (hb hby at_163) rfl (teq (by decide)).2 (XS.iconst X374.here hx rfl (hb hby at_166) (XS.goto X374.here hx rfl (pc0 := 167) (pc' := 171) rfl (hb hby at_167) (by decide) (by decide) hr)))) ?_
    show own_Go p e below _ (T374.setTop (mkF m 171 #[.val (.int x0), .val (.int x1), .val (.int x2), .val (.int x3), .val (.int x4), .val (.int ((x4 &&& (3 : Int32)) % (3 : Int32))), .val (.int (1 : Int32)), .val (.int ((((x4.toUInt32 >>> ((3 : Int32) &&& 31).toUInt32).toInt32) &&& (3 : Int32)) % (3 : Int32))), .val (.ref b242_0), .val (.ref b244_0), .val (.int x2), .val (.ref b342), .val (.ref b349), .val (.int (((x4.toUInt32 >>> ((6 : Int32) &&& 31).toUInt32).toInt32) &&& (3 : Int32))), .val (.int (1 : Int32))] [(.int (1 : Int32))]))
    have hk375 := (Nat.le_trans (Nat.le_trans (Nat.le_trans (Nat.le_trans (Nat.le_refl _) E342.1) K347.1) E349.1) K354.1)
    have A376 := A248.trans Ac244
    have A377 := A376.trans (CHr.ext E342 A376.1)
    have sf379 := (Safe.ext E342 A376.1 (Safe.new (Nat.le_of_eq g342.symm)))
    have A378 := A377.trans (CHr.keep K347 (sfS sf379 sf0) A377.1)
    have A380 := A378.trans (CHr.ext E349 A378.1)
    have sf382 := (Safe.ext E349 A378.1 (Safe.new (Nat.le_of_eq g349.symm)))
    have A381 := A380.trans (CHr.keep K354 (sfS sf382 sf0) A380.1)
    exact own_retNW X374 hx hlk Bd.returns hS hk375 hZ hEL hh e374 A381 (t := .boolean) (by simp) (hb hby at_171) (by decide) (by decide) ⟨rfl, N374⟩
  refine own_go (fun _ hr => XS.ifYes X354.here hx rfl (pc0 := 116) (pc' := 172) rfl (hb hby at_116) rfl ((if0 _ _).trans (feq c356).2) (by decide) (by decide) hr) ?_
  show own_Go p e below _ (T354.setTop (mkF m 172 #[.val (.int x0), .val (.int x1), .val (.int x2), .val (.int x3), .val (.int x4), .val (.int ((x4 &&& (3 : Int32)) % (3 : Int32))), .val (.int (1 : Int32)), .val (.int ((((x4.toUInt32 >>> ((3 : Int32) &&& 31).toUInt32).toInt32) &&& (3 : Int32)) % (3 : Int32))), .val (.ref b242_0), .val (.ref b244_0), .val (.int x2), .val (.ref b342), .val (.ref b349), .val (.int (((x4.toUInt32 >>> ((6 : Int32) &&& 31).toUInt32).toInt32) &&& (3 : Int32))), .unset] []))
  refine own_go (fun _ hr => XS.iload X354.here hx rfl (hb hby at_172) rfl (XS.iconst X354.here hx rfl (hb hby at_174) hr)) ?_
  show own_Go p e below _ (T354.setTop (mkF m 175 #[.val (.int x0), .val (.int x1), .val (.int x2), .val (.int x3), .val (.int x4), .val (.int ((x4 &&& (3 : Int32)) % (3 : Int32))), .val (.int (1 : Int32)), .val (.int ((((x4.toUInt32 >>> ((3 : Int32) &&& 31).toUInt32).toInt32) &&& (3 : Int32)) % (3 : Int32))), .val (.ref b242_0), .val (.ref b244_0), .val (.int x2), .val (.ref b342), .val (.ref b349), .val (.int (((x4.toUInt32 >>> ((6 : Int32) &&& 31).toUInt32).toInt32) &&& (3 : Int32))), .unset] [(.int (1 : Int32)), (.int (((x4.toUInt32 >>> ((6 : Int32) &&& 31).toUInt32).toInt32) &&& (3 : Int32)))]))
  rcases Classical.em ((((x4.toUInt32 >>> ((6 : Int32) &&& 31).toUInt32).toInt32) &&& (3 : Int32)) = (1 : Int32)) with c383 | c383
  · skip
    refine own_go (fun _ hr => XS.icmpNo X354.here hx rfl (hb hby at_175) rfl (teq c383).2 hr) ?_
    show own_Go p e below _ (T354.setTop (mkF m 178 #[.val (.int x0), .val (.int x1), .val (.int x2), .val (.int x3), .val (.int x4), .val (.int ((x4 &&& (3 : Int32)) % (3 : Int32))), .val (.int (1 : Int32)), .val (.int ((((x4.toUInt32 >>> ((3 : Int32) &&& 31).toUInt32).toInt32) &&& (3 : Int32)) % (3 : Int32))), .val (.ref b242_0), .val (.ref b244_0), .val (.int x2), .val (.ref b342), .val (.ref b349), .val (.int (((x4.toUInt32 >>> ((6 : Int32) &&& 31).toUInt32).toInt32) &&& (3 : Int32))), .unset] []))
    refine own_go (fun _ hr => XS.aload X354.here hx rfl (hb hby at_178) rfl rfl (XS.aload X354.here hx rfl (hb hby at_180) rfl rfl hr)) ?_
    show own_Go p e below _ (T354.setTop (mkF m 182 #[.val (.int x0), .val (.int x1), .val (.int x2), .val (.int x3), .val (.int x4), .val (.int ((x4 &&& (3 : Int32)) % (3 : Int32))), .val (.int (1 : Int32)), .val (.int ((((x4.toUInt32 >>> ((3 : Int32) &&& 31).toUInt32).toInt32) &&& (3 : Int32)) % (3 : Int32))), .val (.ref b242_0), .val (.ref b244_0), .val (.int x2), .val (.ref b342), .val (.ref b349), .val (.int (((x4.toUInt32 >>> ((6 : Int32) &&& 31).toUInt32).toInt32) &&& (3 : Int32))), .unset] [(.ref b342), (.ref b342)]))
    have Z385 := (Nat.le_trans Z355 K354.1)
    have f386 := (((A342.keep K347).ext E349).keep K354)
    refine own_cv X354 hx hZ hown (notFace_of_selects (args := #[]) (mvT hZ (hw _ (own_m 40 rfl)))) (hw _ (own_m 37 rfl)) (hw _ (own_m 38 rfl)) (hw _ (own_m 40 rfl)) (hw _ (own_m 39 rfl)) (hw _ (own_m 28 rfl)) (hw _ (own_m 41 rfl)) (by decide) f386 (rm := { frames := 0, cells := 0, slots := 0, locals := 0 }) (rm_equals_20 l Z a0 hw [] b342 T354.heap n0 Z385 ) (by decide) (W := 0) (by decide) (by decide) (by decide) rfl (by rw [hml]; rfl) (argsL := [(.ref b342)]) (lenOf own_pd8 rfl) (rest := []) rfl rfl (Nat.le_of_eq rfl) (hb hby at_182) ?_
    intro _ T384 L384 X384 hQ384
    obtain ⟨rfl, N384q, e384⟩ := hQ384
    have N384 := Fr.app N354 N384q
    show own_Go p e below _ (T384.setTop (mkF m 185 #[.val (.int x0), .val (.int x1), .val (.int x2), .val (.int x3), .val (.int x4), .val (.int ((x4 &&& (3 : Int32)) % (3 : Int32))), .val (.int (1 : Int32)), .val (.int ((((x4.toUInt32 >>> ((3 : Int32) &&& 31).toUInt32).toInt32) &&& (3 : Int32)) % (3 : Int32))), .val (.ref b242_0), .val (.ref b244_0), .val (.int x2), .val (.ref b342), .val (.ref b349), .val (.int (((x4.toUInt32 >>> ((6 : Int32) &&& 31).toUInt32).toInt32) &&& (3 : Int32))), .unset] [(.int (1 : Int32))]))
    have hk387 := (Nat.le_trans (Nat.le_trans (Nat.le_trans (Nat.le_trans (Nat.le_refl _) E342.1) K347.1) E349.1) K354.1)
    have A388 := A248.trans Ac244
    have A389 := A388.trans (CHr.ext E342 A388.1)
    have sf391 := (Safe.ext E342 A388.1 (Safe.new (Nat.le_of_eq g342.symm)))
    have A390 := A389.trans (CHr.keep K347 (sfS sf391 sf0) A389.1)
    have A392 := A390.trans (CHr.ext E349 A390.1)
    have sf394 := (Safe.ext E349 A390.1 (Safe.new (Nat.le_of_eq g349.symm)))
    have A393 := A392.trans (CHr.keep K354 (sfS sf394 sf0) A392.1)
    exact own_retNW X384 hx hlk Bd.returns hS hk387 hZ hEL hh e384 A393 (t := .boolean) (by simp) (hb hby at_185) (by decide) (by decide) ⟨rfl, N384⟩
  refine own_go (fun _ hr => XS.icmpYes X354.here hx rfl (pc0 := 175) (pc' := 186) rfl (hb hby at_175) rfl (feq c383).2 (by decide) (by decide) hr) ?_
  show own_Go p e below _ (T354.setTop (mkF m 186 #[.val (.int x0), .val (.int x1), .val (.int x2), .val (.int x3), .val (.int x4), .val (.int ((x4 &&& (3 : Int32)) % (3 : Int32))), .val (.int (1 : Int32)), .val (.int ((((x4.toUInt32 >>> ((3 : Int32) &&& 31).toUInt32).toInt32) &&& (3 : Int32)) % (3 : Int32))), .val (.ref b242_0), .val (.ref b244_0), .val (.int x2), .val (.ref b342), .val (.ref b349), .val (.int (((x4.toUInt32 >>> ((6 : Int32) &&& 31).toUInt32).toInt32) &&& (3 : Int32))), .unset] []))
  refine own_go (fun _ hr => XS.iload X354.here hx rfl (hb hby at_186) rfl (XS.iconst X354.here hx rfl (hb hby at_188) hr)) ?_
  show own_Go p e below _ (T354.setTop (mkF m 189 #[.val (.int x0), .val (.int x1), .val (.int x2), .val (.int x3), .val (.int x4), .val (.int ((x4 &&& (3 : Int32)) % (3 : Int32))), .val (.int (1 : Int32)), .val (.int ((((x4.toUInt32 >>> ((3 : Int32) &&& 31).toUInt32).toInt32) &&& (3 : Int32)) % (3 : Int32))), .val (.ref b242_0), .val (.ref b244_0), .val (.int x2), .val (.ref b342), .val (.ref b349), .val (.int (((x4.toUInt32 >>> ((6 : Int32) &&& 31).toUInt32).toInt32) &&& (3 : Int32))), .unset] [(.int (2 : Int32)), (.int (((x4.toUInt32 >>> ((6 : Int32) &&& 31).toUInt32).toInt32) &&& (3 : Int32)))]))
  rcases Classical.em ((((x4.toUInt32 >>> ((6 : Int32) &&& 31).toUInt32).toInt32) &&& (3 : Int32)) = (2 : Int32)) with c395 | c395
  · skip
    refine own_go (fun _ hr => XS.icmpNo X354.here hx rfl (hb hby at_189) rfl (teq c395).2 hr) ?_
    show own_Go p e below _ (T354.setTop (mkF m 192 #[.val (.int x0), .val (.int x1), .val (.int x2), .val (.int x3), .val (.int x4), .val (.int ((x4 &&& (3 : Int32)) % (3 : Int32))), .val (.int (1 : Int32)), .val (.int ((((x4.toUInt32 >>> ((3 : Int32) &&& 31).toUInt32).toInt32) &&& (3 : Int32)) % (3 : Int32))), .val (.ref b242_0), .val (.ref b244_0), .val (.int x2), .val (.ref b342), .val (.ref b349), .val (.int (((x4.toUInt32 >>> ((6 : Int32) &&& 31).toUInt32).toInt32) &&& (3 : Int32))), .unset] []))
    refine own_go (fun _ hr => XS.aload X354.here hx rfl (hb hby at_192) rfl rfl (XS.aconstNull X354.here hx rfl (hb hby at_194) hr)) ?_
    show own_Go p e below _ (T354.setTop (mkF m 195 #[.val (.int x0), .val (.int x1), .val (.int x2), .val (.int x3), .val (.int x4), .val (.int ((x4 &&& (3 : Int32)) % (3 : Int32))), .val (.int (1 : Int32)), .val (.int ((((x4.toUInt32 >>> ((3 : Int32) &&& 31).toUInt32).toInt32) &&& (3 : Int32)) % (3 : Int32))), .val (.ref b242_0), .val (.ref b244_0), .val (.int x2), .val (.ref b342), .val (.ref b349), .val (.int (((x4.toUInt32 >>> ((6 : Int32) &&& 31).toUInt32).toInt32) &&& (3 : Int32))), .unset] [.null, (.ref b342)]))
    have Z397 := (Nat.le_trans Z355 K354.1)
    have f398 := (((A342.keep K347).ext E349).keep K354)
    refine own_cv X354 hx hZ hown (notFace_of_selects (args := #[]) (mvT hZ (hw _ (own_m 40 rfl)))) (hw _ (own_m 37 rfl)) (hw _ (own_m 38 rfl)) (hw _ (own_m 40 rfl)) (hw _ (own_m 39 rfl)) (hw _ (own_m 28 rfl)) (hw _ (own_m 41 rfl)) (by decide) f398 (rm := { frames := 0, cells := 0, slots := 0, locals := 0 }) (rm_equals_21 l Z a0 hw [] b342 T354.heap n0 Z397 ) (by decide) (W := 0) (by decide) (by decide) (by decide) rfl (by rw [hml]; rfl) (argsL := [.null]) (lenOf own_pd8 rfl) (rest := []) rfl rfl (Nat.le_of_eq rfl) (hb hby at_195) ?_
    intro _ T396 L396 X396 hQ396
    obtain ⟨rfl, N396q, e396⟩ := hQ396
    have N396 := Fr.app N354 N396q
    show own_Go p e below _ (T396.setTop (mkF m 198 #[.val (.int x0), .val (.int x1), .val (.int x2), .val (.int x3), .val (.int x4), .val (.int ((x4 &&& (3 : Int32)) % (3 : Int32))), .val (.int (1 : Int32)), .val (.int ((((x4.toUInt32 >>> ((3 : Int32) &&& 31).toUInt32).toInt32) &&& (3 : Int32)) % (3 : Int32))), .val (.ref b242_0), .val (.ref b244_0), .val (.int x2), .val (.ref b342), .val (.ref b349), .val (.int (((x4.toUInt32 >>> ((6 : Int32) &&& 31).toUInt32).toInt32) &&& (3 : Int32))), .unset] [(.int (0 : Int32))]))
    refine own_go (fun _ hr => XS.ifNo X396.here hx rfl (hb hby at_198) rfl ((if0 _ _).trans (teq (by decide)).2) (XS.iconst X396.here hx rfl (hb hby at_201) (XS.goto X396.here hx rfl (pc0 := 202) (pc' := 206) rfl (hb hby at_202) (by decide) (by decide) hr))) ?_
    show own_Go p e below _ (T396.setTop (mkF m 206 #[.val (.int x0), .val (.int x1), .val (.int x2), .val (.int x3), .val (.int x4), .val (.int ((x4 &&& (3 : Int32)) % (3 : Int32))), .val (.int (1 : Int32)), .val (.int ((((x4.toUInt32 >>> ((3 : Int32) &&& 31).toUInt32).toInt32) &&& (3 : Int32)) % (3 : Int32))), .val (.ref b242_0), .val (.ref b244_0), .val (.int x2), .val (.ref b342), .val (.ref b349), .val (.int (((x4.toUInt32 >>> ((6 : Int32) &&& 31).toUInt32).toInt32) &&& (3 : Int32))), .unset] [(.int (1 : Int32))]))
    have hk399 := (Nat.le_trans (Nat.le_trans (Nat.le_trans (Nat.le_trans (Nat.le_refl _) E342.1) K347.1) E349.1) K354.1)
    have A400 := A248.trans Ac244
    have A401 := A400.trans (CHr.ext E342 A400.1)
    have sf403 := (Safe.ext E342 A400.1 (Safe.new (Nat.le_of_eq g342.symm)))
    have A402 := A401.trans (CHr.keep K347 (sfS sf403 sf0) A401.1)
    have A404 := A402.trans (CHr.ext E349 A402.1)
    have sf406 := (Safe.ext E349 A402.1 (Safe.new (Nat.le_of_eq g349.symm)))
    have A405 := A404.trans (CHr.keep K354 (sfS sf406 sf0) A404.1)
    exact own_retNW X396 hx hlk Bd.returns hS hk399 hZ hEL hh e396 A405 (t := .boolean) (by simp) (hb hby at_206) (by decide) (by decide) ⟨rfl, N396⟩
  refine own_go (fun _ hr => XS.icmpYes X354.here hx rfl (pc0 := 189) (pc' := 207) rfl (hb hby at_189) rfl (feq c395).2 (by decide) (by decide) hr) ?_
  show own_Go p e below _ (T354.setTop (mkF m 207 #[.val (.int x0), .val (.int x1), .val (.int x2), .val (.int x3), .val (.int x4), .val (.int ((x4 &&& (3 : Int32)) % (3 : Int32))), .val (.int (1 : Int32)), .val (.int ((((x4.toUInt32 >>> ((3 : Int32) &&& 31).toUInt32).toInt32) &&& (3 : Int32)) % (3 : Int32))), .val (.ref b242_0), .val (.ref b244_0), .val (.int x2), .val (.ref b342), .val (.ref b349), .val (.int (((x4.toUInt32 >>> ((6 : Int32) &&& 31).toUInt32).toInt32) &&& (3 : Int32))), .unset] []))
  refine own_go (fun _ hr => XS.aload X354.here hx rfl (hb hby at_207) rfl rfl (XS.aload X354.here hx rfl (hb hby at_209) rfl rfl hr)) ?_
  show own_Go p e below _ (T354.setTop (mkF m 211 #[.val (.int x0), .val (.int x1), .val (.int x2), .val (.int x3), .val (.int x4), .val (.int ((x4 &&& (3 : Int32)) % (3 : Int32))), .val (.int (1 : Int32)), .val (.int ((((x4.toUInt32 >>> ((3 : Int32) &&& 31).toUInt32).toInt32) &&& (3 : Int32)) % (3 : Int32))), .val (.ref b242_0), .val (.ref b244_0), .val (.int x2), .val (.ref b342), .val (.ref b349), .val (.int (((x4.toUInt32 >>> ((6 : Int32) &&& 31).toUInt32).toInt32) &&& (3 : Int32))), .unset] [(.ref b242_0), (.ref b342)]))
  have f408 := (((((f242_0.keep K244).ext E342).keep K347).ext E349).keep K354)
  have Z409 := (Nat.le_trans Z355 K354.1)
  have f410 := (((A342.keep K347).ext E349).keep K354)
  refine own_cv X354 hx hZ hown (notFace_of_selects (args := #[]) (mvT hZ (hw _ (own_m 40 rfl)))) (hw _ (own_m 37 rfl)) (hw _ (own_m 38 rfl)) (hw _ (own_m 40 rfl)) (hw _ (own_m 39 rfl)) (hw _ (own_m 28 rfl)) (hw _ (own_m 41 rfl)) (by decide) f410 (rm := { frames := 0, cells := 0, slots := 0, locals := 0 }) (rm_equals_22 l Z a0 hw [] b342 b242_0 T354.heap n0 Z409 f408 (Ne.symm (Nat.ne_of_lt (Nat.lt_of_lt_of_le (f242_0.keep K244).lt (Nat.le_of_eq g342.symm))))) (by decide) (W := 0) (by decide) (by decide) (by decide) rfl (by rw [hml]; rfl) (argsL := [(.ref b242_0)]) (lenOf own_pd8 rfl) (rest := []) rfl rfl (Nat.le_of_eq rfl) (hb hby at_211) ?_
  intro _ T407 L407 X407 hQ407
  obtain ⟨rfl, N407q, e407⟩ := hQ407
  have N407 := Fr.app N354 N407q
  show own_Go p e below _ (T407.setTop (mkF m 214 #[.val (.int x0), .val (.int x1), .val (.int x2), .val (.int x3), .val (.int x4), .val (.int ((x4 &&& (3 : Int32)) % (3 : Int32))), .val (.int (1 : Int32)), .val (.int ((((x4.toUInt32 >>> ((3 : Int32) &&& 31).toUInt32).toInt32) &&& (3 : Int32)) % (3 : Int32))), .val (.ref b242_0), .val (.ref b244_0), .val (.int x2), .val (.ref b342), .val (.ref b349), .val (.int (((x4.toUInt32 >>> ((6 : Int32) &&& 31).toUInt32).toInt32) &&& (3 : Int32))), .unset] [(.int (0 : Int32))]))
  refine own_go (fun _ hr => XS.ifNo X407.here hx rfl (hb hby at_214) rfl ((if0 _ _).trans (teq (by decide)).2) (XS.iconst X407.here hx rfl (hb hby at_217) (XS.goto X407.here hx rfl (pc0 := 218) (pc' := 222) rfl (hb hby at_218) (by decide) (by decide) hr))) ?_
  show own_Go p e below _ (T407.setTop (mkF m 222 #[.val (.int x0), .val (.int x1), .val (.int x2), .val (.int x3), .val (.int x4), .val (.int ((x4 &&& (3 : Int32)) % (3 : Int32))), .val (.int (1 : Int32)), .val (.int ((((x4.toUInt32 >>> ((3 : Int32) &&& 31).toUInt32).toInt32) &&& (3 : Int32)) % (3 : Int32))), .val (.ref b242_0), .val (.ref b244_0), .val (.int x2), .val (.ref b342), .val (.ref b349), .val (.int (((x4.toUInt32 >>> ((6 : Int32) &&& 31).toUInt32).toInt32) &&& (3 : Int32))), .unset] [(.int (1 : Int32))]))
  have hk411 := (Nat.le_trans (Nat.le_trans (Nat.le_trans (Nat.le_trans (Nat.le_refl _) E342.1) K347.1) E349.1) K354.1)
  have A412 := A248.trans Ac244
  have A413 := A412.trans (CHr.ext E342 A412.1)
  have sf415 := (Safe.ext E342 A412.1 (Safe.new (Nat.le_of_eq g342.symm)))
  have A414 := A413.trans (CHr.keep K347 (sfS sf415 sf0) A413.1)
  have A416 := A414.trans (CHr.ext E349 A414.1)
  have sf418 := (Safe.ext E349 A414.1 (Safe.new (Nat.le_of_eq g349.symm)))
  have A417 := A416.trans (CHr.keep K354 (sfS sf418 sf0) A416.1)
  exact own_retNW X407 hx hlk Bd.returns hS hk411 hZ hEL hh e407 A417 (t := .boolean) (by simp) (hb hby at_222) (by decide) (by decide) ⟨rfl, N407⟩
theorem own_elsub : ∀ p ∈ own_EL, p ∈ consts_1 := by simp [own_EL, consts_1]
set_option maxRecDepth 65536 in
set_option maxHeartbeats 40000000 in
theorem comes_1 {Post : Tables → Env → Array Value → State → Outcome → State → Prop} (hpost : ∀ tb e args s v u, (limb_1_1.after args s (.returned v) u = true ∧ limb_1_2.after args s (.returned v) u = true ∧ True) → FramedW s (.returned v) u (Jvm.fieldLocs frame_1_writes args s ++ Jvm.arrayLocs frame_1_arrays args s ++ Jvm.staticLocs frame_1_statics s) 32 1152 → Post tb e args s (.returned v) u) :
    ArmFor flags0 classFile x code maxLocals ret World_1 tables_1 room_1 Calls_1 rest_1 Pre_1 Post := by
  intro l hfl _ _ p e ha hc hk s m args below hf hA hF happ hP
  obtain ⟨hcalls, hrest, hpre⟩ := hP
  obtain ⟨-, -, -, hnamed, -, -, -, hat⟩ := (Spec.applies_iff hf).mp happ
  obtain ⟨hg, hn⟩ := and_e (Cond.before_iff.mp (show (Jvm.Cond.and given_1 narrow_1).before args s = true from hpre))
  obtain ⟨g1, g2⟩ := and_e hg
  obtain ⟨g3, g4⟩ := and_e g2
  obtain ⟨g5, g6⟩ := and_e g4
  obtain ⟨g7, g8⟩ := and_e g6
  obtain ⟨g9, g10⟩ := and_e g8
  obtain ⟨w0, w1, w2, w3, w4, rfl⟩ : ∃ w0 w1 w2 w3 w4 : Value, args = #[w0, w1, w2, w3, w4] := by
    have hs : args.size = 5 := by simpa [Cond.value, given_1] using g1
    obtain ⟨L⟩ := args
    match L, hs with
    | [w0, w1, w2, w3, w4], _ => exact ⟨w0, w1, w2, w3, w4, rfl⟩
  have hw := fun d (hd : d ∈ tables_1) => atoms_spec (ws := Jvm.Cond.code x code maxLocals ret :: tables_1) hat d (List.mem_cons_of_mem _ hd)
  have hfit : Fit s := fun {y c} hc i hi => by
    obtain ⟨ha, rfl⟩ := Array.getElem?_eq_some_iff.mp hc
    have q := List.all_eq_true.mp ((Array.all_eq_true_iff_forall_mem.mp hF) _ (Array.getElem_mem ha)) i (List.mem_range.mpr hi)
    simpa [Array.getElem?_eq_getElem hi] using q
  obtain ⟨hsets, hown0⟩ := atoms_of _ (rest_1_c_eq ▸ (show rest_1_c.before _ s = true from hrest))
  have hr0 := Cond.before_iff.mp hown0
  obtain ⟨i0, ei0⟩ := is_v g3
  obtain rfl : w0 = (.int i0) := Option.some.inj ei0
  obtain ⟨i1, ei1⟩ := is_v g5
  obtain rfl : w1 = (.int i1) := Option.some.inj ei1
  obtain ⟨i2, ei2⟩ := is_v g7
  obtain rfl : w2 = (.int i2) := Option.some.inj ei2
  obtain ⟨i3, ei3⟩ := is_v g9
  obtain rfl : w3 = (.int i3) := Option.some.inj ei3
  obtain ⟨i4, ei4⟩ := is_v g10
  obtain rfl : w4 = (.int i4) := Option.some.inj ei4
  obtain ⟨i_COMPACT_STRINGS, ei_COMPACT_STRINGS⟩ := is_v (Cond.before_iff.mp (hsets _ (List.mem_of_getElem? (i := 1) rfl)))
  have S_COMPACT_STRINGS := Sta.start ei_COMPACT_STRINGS (Or.inl (hsets _ (List.mem_of_getElem? (i := 0) rfl)))
  have hs_COMPACT_STRINGS : ¬ (i_COMPACT_STRINGS = (0 : Int32)) := gotF (Cond.eq_ints ei_COMPACT_STRINGS (Term.int_eval _)) (not_v (Cond.before_iff.mp (hsets _ (List.mem_of_getElem? (i := 2) rfl))))
  obtain ⟨v_SIOOBE_FORMATTER, ev_SIOOBE_FORMATTER, hv_SIOOBE_FORMATTER⟩ := isR_v (Cond.before_iff.mp (hsets _ (List.mem_of_getElem? (i := 8) rfl)))
  have S_SIOOBE_FORMATTER := Sta.start ev_SIOOBE_FORMATTER (Or.inl (hsets _ (List.mem_of_getElem? (i := 7) rfl)))
  obtain ⟨n, o, h1, h2, h3, _, L, rfl, ⟨rfl, N⟩, -, hq⟩ := rm_law l s _ hw tables_1 i0 i1 i2 i3 i4 i_COMPACT_STRINGS v_SIOOBE_FORMATTER s.heap s.heap.size (Nat.le_refl _) S_COMPACT_STRINGS S_SIOOBE_FORMATTER hs_COMPACT_STRINGS hv_SIOOBE_FORMATTER p e ha hc hk s m _ below hf ((Spec.applies_iff_loose hf).mp happ).1 ⟨rfl, State.Warmed39.refl s, rfl, CHv.start (own_ew hw) (fun p hp => hcalls.1 p (own_elsub p hp)) (hsets _ (List.mem_of_getElem? (i := 2) rfl)) (hw _ (own_m 19 rfl)) (hw _ (own_m 5 rfl))⟩ trivial
  refine ⟨n, _, h1, h2, h3, hpost _ _ _ _ _ _ ⟨Cond.after_iff.mpr rfl, Cond.after_iff.mpr (eq_i res_at (Term.int_eval (1)) rfl), trivial⟩ ⟨hq.1, hq.2.1, hq.2.2.1, (hq.2.2.2.sift fun y hy => Or.inr (N y hy)).mono (by decide) (by decide)⟩⟩
theorem main_1_1 : Claimed_1_1 := comes_1 fun _ _ _ _ _ _ h hF => ⟨h.1, hF⟩
theorem main_1_2 : Claimed_1_2 := comes_1 fun _ _ _ _ _ _ h hF => ⟨h.2.1, hF⟩
end Jvm.Pilot.@@N@@
namespace Jvm.Pilot.@@N@@
open Jvm Jvm.ClassFile Sem Op Lib Jvm.Free Jvm.Stand Jvm.Pilot.@@N@@.Jvm.D
/-! MADE BY PROGRAM (witnessworld.py) out of the Statement's table words and the real class files: 20 classes; the members and pool entries that the words name. The judged class is class 1, her method 2. -/
namespace start1
open Jvm.ClassFile
def u (s : String) : CpInfo := .utf8 (stringToUtf16 s)
/-- a pool by its gaps: so many unusable entries, then the entry; so many at the end -/
def gap : Nat → List CpInfo → List CpInfo
  | 0, r => r
  | n + 1, r => .unusable :: gap n r
def poolList (es : List (Nat × CpInfo)) (last : Nat) : List CpInfo := es.foldr (fun e r => gap e.1 (e.2 :: r)) (gap last [])
def pool (es : List (Nat × CpInfo)) (last : Nat) : Array CpInfo := ⟨poolList es last⟩
def fileOf (pool : Array CpInfo) (this : Nat) (attrs : Array Attribute := #[]) (ms : Array MethodInfo := #[]) (fl : Nat := 33) (sup : Nat := 0) (ifs : Array Nat := #[]) (fds : Array FieldInfo := #[]) : ClassFile where
  minorVersion := 0
  majorVersion := 65
  constantPool := pool
  accessFlags := fl
  thisClass := this
  superClass := sup
  interfaces := ifs
  fields := fds
  methods := ms
  attributes := attrs
def plain (name : String) (sup : Option ClassId) : Class where
  name := name
  kind := .ordinary
  loader := none
  accessFlags := 33
  super := sup
  interfaces := #[]
  cf := none
  fields := #[]
  methods := #[]
  instanceTypes := #[]
  staticTypes := #[]
  resolved := #[]
  callSites := []
  init := .initialized
  statics := none
  mirror := none

def pool0 : Array CpInfo := pool [(5, u "<init>"), (0, u "()V"), (1, .class_ 10), (1, u "java/lang/Object")] 113

def k0c0 : Code := { maxStack := 0, maxLocals := 1, code := object_method_1_code, exceptionTable := #[], attributes := #[] }
def k0m0 : Method := { name := "<init>", desc := "()V", sig := { parameters := [], returnType := none }, accessFlags := 1, code := some k0c0 }
/-- java/lang/Object -/
def k0 : Class := { plain "java/lang/Object" none with
  accessFlags := 33
  interfaces := #[]
  cf := some (fileOf pool0 8 #[] #[{ accessFlags := 1, nameIndex := 5, descriptorIndex := 6, attributes := #[] }] 33 0 #[] #[])
  fields := #[]
  methods := #[k0m0]
  instanceTypes := #[]
  staticTypes := #[]
  resolved := Array.replicate 124 none
  statics := none }

def pool1 : Array CpInfo := pool [(2, .class_ 4), (1, u "java/lang/Object"), (0, u "<init>"), (0, u "()V"), (0, .class_ 8), (0, u "java/lang/String"), (0, .methodref 7 10), (0, .nameAndType 5 11), (0, u "([C)V"), (0, .methodref 13 14), (0, .class_ 15), (0, .nameAndType 16 17), (0, u "com/example/appenddb/appenddb/TopicQueueEqualsPinLaw"), (0, u "mk"), (0, u "(II)Ljava/lang/String;"), (0, .class_ 19), (0, u "com/example/appenddb/appenddb/TopicQueue"), (0, .methodref 18 21), (0, .nameAndType 5 22), (0, u "(Ljava/lang/String;I)V"), (0, .methodref 7 24), (0, .nameAndType 25 26), (0, u "equals"), (0, u "(Ljava/lang/Object;)Z"), (0, .methodref 18 24), (3, u "law"), (0, u "(IIIII)Z")] 2

def k1m0 : Method := { name := "<init>", desc := "()V", sig := { parameters := [], returnType := none }, accessFlags := 1, code := none }
def k1c1 : Code := { maxStack := 6, maxLocals := 4, code := method_2_code, exceptionTable := #[], attributes := #[] }
def k1m1 : Method := { name := "mk", desc := "(II)Ljava/lang/String;", sig := { parameters := [.int, .int], returnType := some (.object "java/lang/String") }, accessFlags := 10, code := some k1c1 }
def k1c2 : Code := { maxStack := 4, maxLocals := 15, code := code, exceptionTable := #[], attributes := #[] }
def k1m2 : Method := { name := "law", desc := "(IIIII)Z", sig := { parameters := [.int, .int, .int, .int, .int], returnType := some .boolean }, accessFlags := 9, code := some k1c2 }
/-- com/example/appenddb/appenddb/TopicQueueEqualsPinLaw -/
def k1 : Class := { plain "com/example/appenddb/appenddb/TopicQueueEqualsPinLaw" (some 0) with
  accessFlags := 49
  interfaces := #[]
  cf := some (fileOf pool1 13 #[] #[{ accessFlags := 1, nameIndex := 5, descriptorIndex := 6, attributes := #[] }, { accessFlags := 10, nameIndex := 16, descriptorIndex := 17, attributes := #[] }, { accessFlags := 9, nameIndex := 31, descriptorIndex := 32, attributes := #[] }] 49 2 #[] #[])
  fields := #[]
  methods := #[k1m0, k1m1, k1m2]
  instanceTypes := #[]
  staticTypes := #[]
  resolved := Array.replicate 35 none
  statics := none }

def pool2 : Array CpInfo := pool [(1, .class_ 2), (0, u "java/io/Serializable"), (0, .class_ 4), (0, u "java/lang/Object")] 2

/-- java/io/Serializable -/
def k2 : Class := { plain "java/io/Serializable" (some 0) with
  accessFlags := 1537
  interfaces := #[]
  cf := some (fileOf pool2 1 #[] #[] 1537 3 #[] #[])
  fields := #[]
  methods := #[]
  instanceTypes := #[]
  staticTypes := #[]
  resolved := Array.replicate 7 none
  statics := none }

def pool3 : Array CpInfo := pool [(1, .class_ 2), (0, u "java/lang/Comparable"), (0, .class_ 4), (0, u "java/lang/Object")] 7

/-- java/lang/Comparable -/
def k3 : Class := { plain "java/lang/Comparable" (some 0) with
  accessFlags := 1537
  interfaces := #[]
  cf := some (fileOf pool3 1 #[] #[] 1537 3 #[] #[])
  fields := #[]
  methods := #[]
  instanceTypes := #[]
  staticTypes := #[]
  resolved := Array.replicate 12 none
  statics := none }

def pool4 : Array CpInfo := pool [(2, .class_ 4), (1, u "java/lang/CharSequence"), (42, .class_ 48), (0, u "java/lang/CharSequence$1CodePointIterator"), (10, .class_ 60), (0, u "java/lang/CharSequence$1CharIterator"), (5, .class_ 67), (0, u "java/lang/Object")] 63

/-- java/lang/CharSequence -/
def k4 : Class := { plain "java/lang/CharSequence" (some 0) with
  accessFlags := 1537
  interfaces := #[]
  cf := some (fileOf pool4 2 #[.nestMembers #[47, 59]] #[] 1537 66 #[] #[])
  fields := #[]
  methods := #[]
  instanceTypes := #[]
  staticTypes := #[]
  resolved := Array.replicate 131 none
  statics := none }

def pool5 : Array CpInfo := pool [(1, .class_ 2), (0, u "java/lang/constant/Constable"), (0, .class_ 4), (0, u "java/lang/Object")] 6

/-- java/lang/constant/Constable -/
def k5 : Class := { plain "java/lang/constant/Constable" (some 0) with
  accessFlags := 1537
  interfaces := #[]
  cf := some (fileOf pool5 1 #[] #[] 1537 3 #[] #[])
  fields := #[]
  methods := #[]
  instanceTypes := #[]
  staticTypes := #[]
  resolved := Array.replicate 11 none
  statics := none }

def pool6 : Array CpInfo := pool [(1, .class_ 2), (0, u "java/lang/constant/ConstantDesc"), (0, .class_ 4), (0, u "java/lang/Object")] 32

/-- java/lang/constant/ConstantDesc -/
def k6 : Class := { plain "java/lang/constant/ConstantDesc" (some 0) with
  accessFlags := 1537
  interfaces := #[]
  cf := some (fileOf pool6 1 #[] #[] 1537 3 #[] #[])
  fields := #[]
  methods := #[]
  instanceTypes := #[]
  staticTypes := #[]
  resolved := Array.replicate 37 none
  statics := none }

def pool7 : Array CpInfo := pool [(1, .methodref 2 3), (0, .class_ 4), (0, .nameAndType 5 6), (0, u "java/lang/Object"), (0, u "<init>"), (0, u "()V"), (0, .string 8), (0, u ""), (0, .fieldref 10 11), (0, .class_ 12), (0, .nameAndType 13 14), (0, u "java/lang/String"), (0, u "value"), (0, u "[B"), (0, .fieldref 10 16), (0, .nameAndType 17 18), (0, u "coder"), (0, u "B"), (2, u "hash"), (0, u "I"), (2, u "hashIsZero"), (0, u "Z"), (0, .methodref 10 28), (0, .nameAndType 5 29), (0, u "([CIILjava/lang/Void;)V"), (8, .fieldref 10 39), (0, .nameAndType 40 26), (0, u "COMPACT_STRINGS"), (1, .class_ 44), (1, u "java/lang/StringUTF16"), (0, u "compress"), (1, .methodref 42 48), (0, .nameAndType 49 50), (0, u "coderFromArrayLen"), (0, u "([BI)B"), (56, .class_ 109), (1, u "java/lang/StringLatin1"), (67, .methodref 42 178), (0, .nameAndType 45 179), (0, u "([CII)[B"), (361, .methodref 107 542), (0, .nameAndType 543 544), (0, u "equals"), (0, u "([B[B)Z"), (28, u "(Ljava/lang/Object;)Z"), (1, .class_ 576), (0, u "java/lang/CharSequence"), (22, u "CASE_INSENSITIVE_ORDER"), (0, u "Ljava/util/Comparator;"), (409, u "([C)V"), (90, u "serialPersistentFields"), (0, u "[Ljava/io/ObjectStreamField;"), (0, .class_ 1104), (0, u "java/lang/String$CaseInsensitiveComparator"), (1, .class_ 1107), (0, u "java/io/Serializable"), (0, .class_ 1109), (0, u "java/lang/Comparable"), (0, .class_ 1111), (0, u "java/lang/constant/Constable"), (0, .class_ 1113), (0, u "java/lang/constant/ConstantDesc"), (2, u "serialVersionUID"), (0, u "J"), (3, u "REPL"), (0, u "C"), (2, u "LATIN1"), (1, u "UTF16")] 323

def k7m0 : Method := { name := "<init>", desc := "()V", sig := { parameters := [], returnType := none }, accessFlags := 1, code := none }
def k7c1 : Code := { maxStack := 5, maxLocals := 2, code := jdk_42_method_3_code, exceptionTable := #[], attributes := #[] }
def k7m1 : Method := { name := "<init>", desc := "([C)V", sig := { parameters := [(.array .char)], returnType := none }, accessFlags := 1, code := some k7c1 }
def k7c2 : Code := { maxStack := 2, maxLocals := 3, code := jdk_42_method_66_code, exceptionTable := #[], attributes := #[] }
def k7m2 : Method := { name := "equals", desc := "(Ljava/lang/Object;)Z", sig := { parameters := [(.object "java/lang/Object")], returnType := some .boolean }, accessFlags := 1, code := some k7c2 }
def k7c3 : Code := { maxStack := 4, maxLocals := 6, code := jdk_42_method_149_code, exceptionTable := #[], attributes := #[] }
def k7m3 : Method := { name := "<init>", desc := "([CIILjava/lang/Void;)V", sig := { parameters := [(.array .char), .int, .int, (.object "java/lang/Void")], returnType := none }, accessFlags := 2, code := some k7c3 }
/-- java/lang/String -/
def k7 : Class := { plain "java/lang/String" (some 0) with
  accessFlags := 49
  interfaces := #[2, 3, 4, 5, 6]
  cf := some (fileOf pool7 10 #[.nestMembers #[1103]] #[{ accessFlags := 1, nameIndex := 5, descriptorIndex := 6, attributes := #[] }, { accessFlags := 1, nameIndex := 5, descriptorIndex := 1010, attributes := #[] }, { accessFlags := 1, nameIndex := 543, descriptorIndex := 573, attributes := #[] }, { accessFlags := 2, nameIndex := 5, descriptorIndex := 29, attributes := #[] }] 49 2 #[1106, 1108, 575, 1110, 1112] #[{ accessFlags := 18, nameIndex := 13, descriptorIndex := 14, attributes := #[] }, { accessFlags := 18, nameIndex := 17, descriptorIndex := 18, attributes := #[] }, { accessFlags := 2, nameIndex := 21, descriptorIndex := 22, attributes := #[] }, { accessFlags := 2, nameIndex := 25, descriptorIndex := 26, attributes := #[] }, { accessFlags := 26, nameIndex := 1116, descriptorIndex := 1117, attributes := #[] }, { accessFlags := 24, nameIndex := 40, descriptorIndex := 26, attributes := #[] }, { accessFlags := 26, nameIndex := 1101, descriptorIndex := 1102, attributes := #[] }, { accessFlags := 26, nameIndex := 1121, descriptorIndex := 1122, attributes := #[] }, { accessFlags := 25, nameIndex := 599, descriptorIndex := 600, attributes := #[] }, { accessFlags := 24, nameIndex := 1125, descriptorIndex := 18, attributes := #[] }, { accessFlags := 24, nameIndex := 1127, descriptorIndex := 18, attributes := #[] }])
  fields := #[{ name := "value", type := (.array .byte), accessFlags := 18, slot := 0, constantValue := 0 }, { name := "coder", type := .byte, accessFlags := 18, slot := 1, constantValue := 0 }, { name := "hash", type := .int, accessFlags := 2, slot := 2, constantValue := 0 }, { name := "hashIsZero", type := .boolean, accessFlags := 2, slot := 3, constantValue := 0 }, { name := "serialVersionUID", type := .long, accessFlags := 26, slot := 0, constantValue := 0 }, { name := "COMPACT_STRINGS", type := .boolean, accessFlags := 24, slot := 1, constantValue := 0 }, { name := "serialPersistentFields", type := (.array (.object "java/io/ObjectStreamField")), accessFlags := 26, slot := 2, constantValue := 0 }, { name := "REPL", type := .char, accessFlags := 26, slot := 3, constantValue := 0 }, { name := "CASE_INSENSITIVE_ORDER", type := (.object "java/util/Comparator"), accessFlags := 25, slot := 4, constantValue := 0 }, { name := "LATIN1", type := .byte, accessFlags := 24, slot := 5, constantValue := 0 }, { name := "UTF16", type := .byte, accessFlags := 24, slot := 6, constantValue := 0 }]
  methods := #[k7m0, k7m1, k7m2, k7m3]
  instanceTypes := #[(.array .byte), .byte, .int, .boolean]
  staticTypes := #[.long, .boolean, (.array (.object "java/io/ObjectStreamField")), .char, (.object "java/util/Comparator"), .byte, .byte]
  resolved := Array.replicate 1451 none
  statics := some 0 }

def pool8 : Array CpInfo := pool [(1, .methodref 2 3), (0, .class_ 4), (0, .nameAndType 5 6), (0, u "java/lang/Object"), (0, u "<init>"), (0, u "()V"), (0, .fieldref 8 9), (0, .class_ 10), (0, .nameAndType 11 12), (0, u "com/example/appenddb/appenddb/TopicQueue"), (0, u "topic"), (0, u "Ljava/lang/String;"), (0, .fieldref 8 14), (0, .nameAndType 15 16), (0, u "queueId"), (0, u "I"), (0, .methodref 18 19), (0, .class_ 20), (0, .nameAndType 21 22), (0, u "java/lang/String"), (0, u "equals"), (0, u "(Ljava/lang/Object;)Z"), (8, u "(Ljava/lang/String;I)V")] 22

def k8c0 : Code := { maxStack := 2, maxLocals := 3, code := prog_8_method_1_code, exceptionTable := #[], attributes := #[] }
def k8m0 : Method := { name := "<init>", desc := "(Ljava/lang/String;I)V", sig := { parameters := [(.object "java/lang/String"), .int], returnType := none }, accessFlags := 0, code := some k8c0 }
def k8c1 : Code := { maxStack := 2, maxLocals := 3, code := prog_8_method_2_code, exceptionTable := #[], attributes := #[] }
def k8m1 : Method := { name := "equals", desc := "(Ljava/lang/Object;)Z", sig := { parameters := [(.object "java/lang/Object")], returnType := some .boolean }, accessFlags := 1, code := some k8c1 }
/-- com/example/appenddb/appenddb/TopicQueue -/
def k8 : Class := { plain "com/example/appenddb/appenddb/TopicQueue" (some 0) with
  accessFlags := 48
  interfaces := #[]
  cf := some (fileOf pool8 8 #[] #[{ accessFlags := 0, nameIndex := 5, descriptorIndex := 31, attributes := #[] }, { accessFlags := 1, nameIndex := 21, descriptorIndex := 22, attributes := #[] }] 48 2 #[] #[{ accessFlags := 18, nameIndex := 11, descriptorIndex := 12, attributes := #[] }, { accessFlags := 18, nameIndex := 15, descriptorIndex := 16, attributes := #[] }])
  fields := #[{ name := "topic", type := (.object "java/lang/String"), accessFlags := 18, slot := 0, constantValue := 0 }, { name := "queueId", type := .int, accessFlags := 18, slot := 1, constantValue := 0 }]
  methods := #[k8m0, k8m1]
  instanceTypes := #[(.object "java/lang/String"), .int]
  staticTypes := #[]
  resolved := Array.replicate 54 none
  statics := none }

def pool9 : Array CpInfo := pool [(6, .class_ 8), (1, u "java/lang/Object"), (0, u "<init>"), (0, u "()V"), (1, .class_ 14), (1, u "java/lang/StringUTF16"), (31, u "$assertionsDisabled"), (0, u "Z"), (13, u "HI_BYTE_SHIFT"), (0, u "I"), (2, u "LO_BYTE_SHIFT"), (49, .methodref 12 116), (0, .nameAndType 117 118), (0, u "compress"), (0, u "([CI[BII)I"), (3, u "([CII)[B"), (138, u "coderFromArrayLen"), (0, u "([BI)B"), (106, .class_ 371), (1, u "java/lang/StringUTF16$LinesSpliterator"), (58, u "MAX_LENGTH"), (196, .class_ 628), (0, u "java/lang/StringUTF16$CodePointsSpliterator"), (0, .class_ 630), (0, u "java/lang/StringUTF16$CharsSpliterator")] 4

def k9m0 : Method := { name := "<init>", desc := "()V", sig := { parameters := [], returnType := none }, accessFlags := 0, code := none }
def k9c1 : Code := { maxStack := 2, maxLocals := 2, code := jdk_52_method_15_code, exceptionTable := #[], attributes := #[] }
def k9m1 : Method := { name := "coderFromArrayLen", desc := "([BI)B", sig := { parameters := [(.array .byte), .int], returnType := some .byte }, accessFlags := 8, code := some k9c1 }
def k9c2 : Code := { maxStack := 5, maxLocals := 6, code := jdk_52_method_16_code, exceptionTable := #[], attributes := #[] }
def k9m2 : Method := { name := "compress", desc := "([CII)[B", sig := { parameters := [(.array .char), .int, .int], returnType := some (.array .byte) }, accessFlags := 9, code := some k9c2 }
def k9c3 : Code := { maxStack := 3, maxLocals := 7, code := jdk_52_method_21_code, exceptionTable := #[], attributes := #[] }
def k9m3 : Method := { name := "compress", desc := "([CI[BII)I", sig := { parameters := [(.array .char), .int, (.array .byte), .int, .int], returnType := some .int }, accessFlags := 9, code := some k9c3 }
/-- java/lang/StringUTF16 -/
def k9 : Class := { plain "java/lang/StringUTF16" (some 0) with
  accessFlags := 48
  interfaces := #[]
  cf := some (fileOf pool9 12 #[.nestMembers #[627, 629, 369]] #[{ accessFlags := 0, nameIndex := 9, descriptorIndex := 10, attributes := #[] }, { accessFlags := 8, nameIndex := 261, descriptorIndex := 262, attributes := #[] }, { accessFlags := 9, nameIndex := 117, descriptorIndex := 122, attributes := #[] }, { accessFlags := 9, nameIndex := 117, descriptorIndex := 118, attributes := #[] }] 48 6 #[] #[{ accessFlags := 26, nameIndex := 61, descriptorIndex := 62, attributes := #[] }, { accessFlags := 26, nameIndex := 65, descriptorIndex := 62, attributes := #[] }, { accessFlags := 24, nameIndex := 430, descriptorIndex := 62, attributes := #[] }, { accessFlags := 4120, nameIndex := 46, descriptorIndex := 47, attributes := #[] }])
  fields := #[{ name := "HI_BYTE_SHIFT", type := .int, accessFlags := 26, slot := 0, constantValue := 0 }, { name := "LO_BYTE_SHIFT", type := .int, accessFlags := 26, slot := 1, constantValue := 0 }, { name := "MAX_LENGTH", type := .int, accessFlags := 24, slot := 2, constantValue := 0 }, { name := "$assertionsDisabled", type := .boolean, accessFlags := 4120, slot := 3, constantValue := 0 }]
  methods := #[k9m0, k9m1, k9m2, k9m3]
  instanceTypes := #[]
  staticTypes := #[.int, .int, .int, .boolean]
  resolved := Array.replicate 635 none
  statics := none }

def pool10 : Array CpInfo := pool [(4, .class_ 6), (1, u "java/lang/Object"), (0, u "<init>"), (0, u "()V"), (5, .class_ 16), (1, u "java/lang/StringLatin1"), (104, u "$assertionsDisabled"), (0, u "Z"), (98, .class_ 223), (1, u "java/lang/StringLatin1$LinesSpliterator"), (57, u "equals"), (0, u "([B[B)Z"), (107, .class_ 391), (0, u "java/lang/StringLatin1$CharsSpliterator")] 3

def k10m0 : Method := { name := "<init>", desc := "()V", sig := { parameters := [], returnType := none }, accessFlags := 0, code := none }
def k10c1 : Code := { maxStack := 3, maxLocals := 3, code := jdk_43_method_13_code, exceptionTable := #[], attributes := #[] }
def k10m1 : Method := { name := "equals", desc := "([B[B)Z", sig := { parameters := [(.array .byte), (.array .byte)], returnType := some .boolean }, accessFlags := 9, code := some k10c1 }
/-- java/lang/StringLatin1 -/
def k10 : Class := { plain "java/lang/StringLatin1" (some 0) with
  accessFlags := 48
  interfaces := #[]
  cf := some (fileOf pool10 14 #[.nestMembers #[390, 221]] #[{ accessFlags := 0, nameIndex := 7, descriptorIndex := 8, attributes := #[] }, { accessFlags := 9, nameIndex := 281, descriptorIndex := 282, attributes := #[] }] 48 4 #[] #[{ accessFlags := 4120, nameIndex := 121, descriptorIndex := 122, attributes := #[] }])
  fields := #[{ name := "$assertionsDisabled", type := .boolean, accessFlags := 4120, slot := 0, constantValue := 0 }]
  methods := #[k10m0, k10m1]
  instanceTypes := #[]
  staticTypes := #[.boolean]
  resolved := Array.replicate 395 none
  statics := none }

def pool11 : Array CpInfo := pool [(2, .class_ 4), (1, u "java/lang/Object"), (0, u "<init>"), (0, u "()V"), (17, .class_ 26), (1, u "jdk/internal/util/Preconditions"), (28, .class_ 56), (0, u "jdk/internal/util/Preconditions$4"), (57, .class_ 115), (0, u "jdk/internal/util/Preconditions$1"), (7, u "SIOOBE_FORMATTER"), (0, u "Ljava/util/function/BiFunction;"), (0, .class_ 126), (0, u "jdk/internal/util/Preconditions$2"), (3, u "AIOOBE_FORMATTER"), (0, .class_ 132), (0, u "jdk/internal/util/Preconditions$3"), (3, u "IOOBE_FORMATTER")] 57

def k11m0 : Method := { name := "<init>", desc := "()V", sig := { parameters := [], returnType := none }, accessFlags := 1, code := none }
/-- jdk/internal/util/Preconditions -/
def k11 : Class := { plain "jdk/internal/util/Preconditions" (some 0) with
  accessFlags := 33
  interfaces := #[]
  cf := some (fileOf pool11 24 #[.nestMembers #[55, 131, 125, 114]] #[{ accessFlags := 1, nameIndex := 5, descriptorIndex := 6, attributes := #[] }] 33 2 #[] #[{ accessFlags := 25, nameIndex := 123, descriptorIndex := 124, attributes := #[] }, { accessFlags := 25, nameIndex := 130, descriptorIndex := 124, attributes := #[] }, { accessFlags := 25, nameIndex := 136, descriptorIndex := 124, attributes := #[] }])
  fields := #[{ name := "SIOOBE_FORMATTER", type := (.object "java/util/function/BiFunction"), accessFlags := 25, slot := 0, constantValue := 0 }, { name := "AIOOBE_FORMATTER", type := (.object "java/util/function/BiFunction"), accessFlags := 25, slot := 1, constantValue := 0 }, { name := "IOOBE_FORMATTER", type := (.object "java/util/function/BiFunction"), accessFlags := 25, slot := 2, constantValue := 0 }]
  methods := #[k11m0]
  instanceTypes := #[]
  staticTypes := #[(.object "java/util/function/BiFunction"), (.object "java/util/function/BiFunction"), (.object "java/util/function/BiFunction")]
  resolved := Array.replicate 194 none
  statics := some 1 }

def pool12 : Array CpInfo := pool [(9, u "<init>"), (6, .class_ 18), (1, u "java/lang/Object"), (0, u "()V"), (1, .class_ 23), (1, u "jdk/internal/util/ArraysSupport"), (0, u "LOG2_ARRAY_LONG_INDEX_SCALE"), (0, u "I"), (2, u "U"), (0, u "Ljdk/internal/misc/Unsafe;"), (8, u "BIG_ENDIAN"), (0, u "Z"), (8, u "LOG2_BYTE_BIT_SIZE"), (4, u "LOG2_ARRAY_INT_INDEX_SCALE"), (54, u "JLA"), (0, u "Ljdk/internal/access/JavaLangAccess;"), (11, u "LOG2_ARRAY_BOOLEAN_INDEX_SCALE"), (9, u "LOG2_ARRAY_BYTE_INDEX_SCALE"), (5, u "LOG2_ARRAY_CHAR_INDEX_SCALE"), (5, u "LOG2_ARRAY_SHORT_INDEX_SCALE"), (18, u "LOG2_ARRAY_FLOAT_INDEX_SCALE"), (24, u "LOG2_ARRAY_DOUBLE_INDEX_SCALE"), (89, u "T_BOOLEAN"), (2, u "T_CHAR"), (1, u "T_FLOAT"), (1, u "T_DOUBLE"), (1, u "T_BYTE"), (1, u "T_SHORT"), (1, u "T_INT"), (1, u "T_LONG"), (1, u "SOFT_MAX_ARRAY_LENGTH")] 83

def k12m0 : Method := { name := "<init>", desc := "()V", sig := { parameters := [], returnType := none }, accessFlags := 2, code := none }
/-- jdk/internal/util/ArraysSupport -/
def k12 : Class := { plain "jdk/internal/util/ArraysSupport" (some 0) with
  accessFlags := 33
  interfaces := #[]
  cf := some (fileOf pool12 21 #[] #[{ accessFlags := 2, nameIndex := 9, descriptorIndex := 19, attributes := #[] }] 33 16 #[] #[{ accessFlags := 24, nameIndex := 28, descriptorIndex := 29, attributes := #[] }, { accessFlags := 26, nameIndex := 38, descriptorIndex := 39, attributes := #[] }, { accessFlags := 25, nameIndex := 121, descriptorIndex := 25, attributes := #[] }, { accessFlags := 25, nameIndex := 131, descriptorIndex := 25, attributes := #[] }, { accessFlags := 25, nameIndex := 137, descriptorIndex := 25, attributes := #[] }, { accessFlags := 25, nameIndex := 143, descriptorIndex := 25, attributes := #[] }, { accessFlags := 25, nameIndex := 53, descriptorIndex := 25, attributes := #[] }, { accessFlags := 25, nameIndex := 24, descriptorIndex := 25, attributes := #[] }, { accessFlags := 25, nameIndex := 162, descriptorIndex := 25, attributes := #[] }, { accessFlags := 25, nameIndex := 187, descriptorIndex := 25, attributes := #[] }, { accessFlags := 26, nameIndex := 48, descriptorIndex := 25, attributes := #[] }, { accessFlags := 25, nameIndex := 277, descriptorIndex := 25, attributes := #[] }, { accessFlags := 25, nameIndex := 280, descriptorIndex := 25, attributes := #[] }, { accessFlags := 25, nameIndex := 282, descriptorIndex := 25, attributes := #[] }, { accessFlags := 25, nameIndex := 284, descriptorIndex := 25, attributes := #[] }, { accessFlags := 25, nameIndex := 286, descriptorIndex := 25, attributes := #[] }, { accessFlags := 25, nameIndex := 288, descriptorIndex := 25, attributes := #[] }, { accessFlags := 25, nameIndex := 290, descriptorIndex := 25, attributes := #[] }, { accessFlags := 25, nameIndex := 292, descriptorIndex := 25, attributes := #[] }, { accessFlags := 26, nameIndex := 108, descriptorIndex := 109, attributes := #[] }, { accessFlags := 25, nameIndex := 294, descriptorIndex := 25, attributes := #[] }])
  fields := #[{ name := "U", type := (.object "jdk/internal/misc/Unsafe"), accessFlags := 24, slot := 0, constantValue := 0 }, { name := "BIG_ENDIAN", type := .boolean, accessFlags := 26, slot := 1, constantValue := 0 }, { name := "LOG2_ARRAY_BOOLEAN_INDEX_SCALE", type := .int, accessFlags := 25, slot := 2, constantValue := 0 }, { name := "LOG2_ARRAY_BYTE_INDEX_SCALE", type := .int, accessFlags := 25, slot := 3, constantValue := 0 }, { name := "LOG2_ARRAY_CHAR_INDEX_SCALE", type := .int, accessFlags := 25, slot := 4, constantValue := 0 }, { name := "LOG2_ARRAY_SHORT_INDEX_SCALE", type := .int, accessFlags := 25, slot := 5, constantValue := 0 }, { name := "LOG2_ARRAY_INT_INDEX_SCALE", type := .int, accessFlags := 25, slot := 6, constantValue := 0 }, { name := "LOG2_ARRAY_LONG_INDEX_SCALE", type := .int, accessFlags := 25, slot := 7, constantValue := 0 }, { name := "LOG2_ARRAY_FLOAT_INDEX_SCALE", type := .int, accessFlags := 25, slot := 8, constantValue := 0 }, { name := "LOG2_ARRAY_DOUBLE_INDEX_SCALE", type := .int, accessFlags := 25, slot := 9, constantValue := 0 }, { name := "LOG2_BYTE_BIT_SIZE", type := .int, accessFlags := 26, slot := 10, constantValue := 0 }, { name := "T_BOOLEAN", type := .int, accessFlags := 25, slot := 11, constantValue := 0 }, { name := "T_CHAR", type := .int, accessFlags := 25, slot := 12, constantValue := 0 }, { name := "T_FLOAT", type := .int, accessFlags := 25, slot := 13, constantValue := 0 }, { name := "T_DOUBLE", type := .int, accessFlags := 25, slot := 14, constantValue := 0 }, { name := "T_BYTE", type := .int, accessFlags := 25, slot := 15, constantValue := 0 }, { name := "T_SHORT", type := .int, accessFlags := 25, slot := 16, constantValue := 0 }, { name := "T_INT", type := .int, accessFlags := 25, slot := 17, constantValue := 0 }, { name := "T_LONG", type := .int, accessFlags := 25, slot := 18, constantValue := 0 }, { name := "JLA", type := (.object "jdk/internal/access/JavaLangAccess"), accessFlags := 26, slot := 19, constantValue := 0 }, { name := "SOFT_MAX_ARRAY_LENGTH", type := .int, accessFlags := 25, slot := 20, constantValue := 0 }]
  methods := #[k12m0]
  instanceTypes := #[]
  staticTypes := #[(.object "jdk/internal/misc/Unsafe"), .boolean, .int, .int, .int, .int, .int, .int, .int, .int, .int, .int, .int, .int, .int, .int, .int, .int, .int, (.object "jdk/internal/access/JavaLangAccess"), .int]
  resolved := Array.replicate 378 none
  statics := none }

def pool13 : Array CpInfo := pool [(1, u "java/lang/Cloneable"), (0, .class_ 1), (0, u "java/lang/Object"), (0, .class_ 3)] 3

/-- java/lang/Cloneable -/
def k13 : Class := { plain "java/lang/Cloneable" (some 0) with
  accessFlags := 1537
  interfaces := #[]
  cf := some (fileOf pool13 2 #[] #[] 1537 4 #[] #[])
  fields := #[]
  methods := #[]
  instanceTypes := #[]
  staticTypes := #[]
  resolved := Array.replicate 8 none
  statics := none }

/-- the primitive byte -/
def k14 : Class := { plain "byte" none with kind := .primitive 'B', accessFlags := 0x411 }
/-- [B -/
def k15 : Class := { plain "[B" (some 0) with kind := .array 14 .byte, interfaces := #[13, 2], accessFlags := 1041 }

/-- the primitive char -/
def k16 : Class := { plain "char" none with kind := .primitive 'C', accessFlags := 0x411 }
/-- [C -/
def k17 : Class := { plain "[C" (some 0) with kind := .array 16 .char, interfaces := #[13, 2], accessFlags := 1041 }

/-- the primitive int -/
def k18 : Class := { plain "int" none with kind := .primitive 'I', accessFlags := 0x411 }
/-- [I -/
def k19 : Class := { plain "[I" (some 0) with kind := .array 18 .int, interfaces := #[13, 2], accessFlags := 1041 }

def heap : Heap := #[{ cls := 7, slots := #[.long 0, .int 1, .null, .int 0, .null, .int 0, .int 0], vm := .statics 7 },
  { cls := 11, slots := #[.null, .null, .null], vm := .statics 11 }]
def classes : Array Class := #[k0, k1, k2, k3, k4, k5, k6, k7, k8, k9, k10, k11, k12, k13, k14, k15, k16, k17, k18, k19]
def interned : List (Array UInt16 × Addr) := []
def slotsUsed : Nat := 10
def theMethod : MethodId := ⟨1, 2⟩
def args0 : Array Value := #[.int 5, .int 5, .int 5, .int 5, .int 5]
def aboutOver (below : List Frame) : State where
  vm := { classes := classes, interned := interned.toArray }
  heap := heap
  slotsUsed := slotsUsed
  threads := #[{ frames := .invoking theMethod args0 :: below }]
def below0 : List Frame := [.native { method := ⟨0, 0⟩, args := #[] }]
def about1 : State := aboutOver below0
def p0 : Program := .bare "" "" ""
def e0 : Env := launch0.env 0 0 0
theorem w_frames : about1.frames = Frame.invoking theMethod args0 :: below0 := rfl
set_option maxRecDepth 65536 in
theorem w_args : argsFit about1.vm theMethod args0 = true := by decide +kernel
set_option maxRecDepth 65536 in
theorem w_heap : heapFits about1 = true := by decide +kernel
set_option maxRecDepth 65536 in
theorem w_runnable : about1.curStatus? = some .runnable := by decide +kernel
set_option maxRecDepth 65536 in
theorem w_alone : about1.alone = true := by decide +kernel
set_option maxRecDepth 65536 in
theorem w_named : about1.methodNamed? x = some theMethod := by decide +kernel
set_option maxRecDepth 65536 in
theorem w_hears : about1.hears theMethod below0 = true := by decide +kernel
set_option maxRecDepth 65536 in
theorem w_ripe : about1.ripe theMethod args0 below0 = true := by decide +kernel
theorem w_running : about1.status = .running := rfl
set_option maxRecDepth 65536 in
theorem w_room : about1.hasRoom e0.platform room_1 = true :=
  launch0.hasRoom_least _ room_1 (by decide +kernel) (by decide +kernel) (by decide +kernel) (by decide +kernel) (by decide +kernel) (by decide +kernel)
theorem allAtoms_all (ts : List Jvm.Cond) (a : Array Jvm.Value) (st : Jvm.State) : (allAtoms ts).before a st = ts.all (fun c => c.before a st) := by
  induction ts with
  | nil => rfl
  | cons c t ih =>
    show (Jvm.Cond.and c (allAtoms t)).before a st = _
    rw [Jvm.Cond.before_and, ih, List.all_cons]
def words1 : List Jvm.Cond := Jvm.Cond.code x code maxLocals ret :: tables_1
/-- a 'code' word, met by the world's own term for the bytes: nothing is compared byte by byte -/
theorem code_word {y : MethodName} {bytes : ByteArray} {mx : Nat} {rt : Option FieldType} {a : Array Value} {s : State} {m : MethodId} {meth : Method} {c : Code} (h1 : s.methodNamed? y = some m) (h2 : s.vm.method? m = some meth) (h3 : meth.code = some c) (h4 : c.code = bytes)
    (h5 : (c.maxLocals == mx && c.exceptionTable.isEmpty && decide (c.maxStack ≤ mostOperands) && decide (meth.sig.returnType = rt) && !meth.locks && decide (parseMethodDescriptor y.desc = some meth.sig)) = true) : (Jvm.Cond.code y bytes mx rt).before a s = true := by
  simp only [Bool.and_eq_true, beq_iff_eq, Bool.not_eq_true', decide_eq_true_eq] at h5
  obtain ⟨⟨⟨⟨⟨g1, g2⟩, g3⟩, g4⟩, g5⟩, g6⟩ := h5
  simp [Cond.before, Cond.holds, Cond.value, h1, h2, h3, h4, g1, g2, g3, g4, g5, g6]
def isCode : Jvm.Cond → Bool
  | .code _ _ _ _ => true
  | _ => false
theorem all_split {L : List Jvm.Cond} {P : Jvm.Cond → Bool} (h1 : L.all (fun c => isCode c || P c) = true) (h2 : ∀ c ∈ L.filter isCode, P c = true) : L.all P = true := by
  refine List.all_eq_true.mpr fun c hc => ?_
  have h := List.all_eq_true.mp h1 c hc
  rcases Bool.eq_false_or_eq_true (isCode c) with hi | hi
  · exact h2 c (List.mem_filter.mpr ⟨hc, hi⟩)
  · simpa [hi] using h
set_option maxRecDepth 65536 in
theorem w_c0 : (Jvm.Cond.code x code maxLocals ret).before args0 about1 = true := code_word (m := ⟨1, 2⟩) (meth := k1m2) (c := k1c2) (by decide +kernel) rfl rfl rfl (by decide +kernel)
set_option maxRecDepth 65536 in
theorem w_c1 : (Jvm.Cond.code ({ cls := "com/example/appenddb/appenddb/TopicQueueEqualsPinLaw", name := "mk", desc := "(II)Ljava/lang/String;" } : Jvm.MethodName) method_2_code (4 : Nat) (Option.some (Jvm.ClassFile.FieldType.object "java/lang/String"))).before args0 about1 = true := code_word (m := ⟨1, 1⟩) (meth := k1m1) (c := k1c1) (by decide +kernel) rfl rfl rfl (by decide +kernel)
set_option maxRecDepth 65536 in
theorem w_c2 : (Jvm.Cond.code ({ cls := "java/lang/String", name := "<init>", desc := "([C)V" } : Jvm.MethodName) jdk_42_method_3_code (2 : Nat) (Option.none : Option Jvm.ClassFile.FieldType)).before args0 about1 = true := code_word (m := ⟨7, 1⟩) (meth := k7m1) (c := k7c1) (by decide +kernel) rfl rfl rfl (by decide +kernel)
set_option maxRecDepth 65536 in
theorem w_c3 : (Jvm.Cond.code ({ cls := "java/lang/String", name := "<init>", desc := "([CIILjava/lang/Void;)V" } : Jvm.MethodName) jdk_42_method_149_code (6 : Nat) (Option.none : Option Jvm.ClassFile.FieldType)).before args0 about1 = true := code_word (m := ⟨7, 3⟩) (meth := k7m3) (c := k7c3) (by decide +kernel) rfl rfl rfl (by decide +kernel)
set_option maxRecDepth 65536 in
theorem w_c4 : (Jvm.Cond.code ({ cls := "java/lang/Object", name := "<init>", desc := "()V" } : Jvm.MethodName) object_method_1_code (1 : Nat) (Option.none : Option Jvm.ClassFile.FieldType)).before args0 about1 = true := code_word (m := ⟨0, 0⟩) (meth := k0m0) (c := k0c0) (by decide +kernel) rfl rfl rfl (by decide +kernel)
set_option maxRecDepth 65536 in
theorem w_c5 : (Jvm.Cond.code ({ cls := "com/example/appenddb/appenddb/TopicQueue", name := "<init>", desc := "(Ljava/lang/String;I)V" } : Jvm.MethodName) prog_8_method_1_code (3 : Nat) (Option.none : Option Jvm.ClassFile.FieldType)).before args0 about1 = true := code_word (m := ⟨8, 0⟩) (meth := k8m0) (c := k8c0) (by decide +kernel) rfl rfl rfl (by decide +kernel)
set_option maxRecDepth 65536 in
theorem w_c6 : (Jvm.Cond.code ({ cls := "com/example/appenddb/appenddb/TopicQueue", name := "equals", desc := "(Ljava/lang/Object;)Z" } : Jvm.MethodName) prog_8_method_2_code (3 : Nat) (Option.some Jvm.ClassFile.FieldType.boolean)).before args0 about1 = true := code_word (m := ⟨8, 1⟩) (meth := k8m1) (c := k8c1) (by decide +kernel) rfl rfl rfl (by decide +kernel)
set_option maxRecDepth 65536 in
theorem w_c7 : (Jvm.Cond.code ({ cls := "java/lang/StringUTF16", name := "compress", desc := "([CII)[B" } : Jvm.MethodName) jdk_52_method_16_code (6 : Nat) (Option.some (Jvm.ClassFile.FieldType.array Jvm.ClassFile.FieldType.byte))).before args0 about1 = true := code_word (m := ⟨9, 2⟩) (meth := k9m2) (c := k9c2) (by decide +kernel) rfl rfl rfl (by decide +kernel)
set_option maxRecDepth 65536 in
theorem w_c8 : (Jvm.Cond.code ({ cls := "java/lang/StringUTF16", name := "compress", desc := "([CI[BII)I" } : Jvm.MethodName) jdk_52_method_21_code (7 : Nat) (Option.some Jvm.ClassFile.FieldType.int)).before args0 about1 = true := code_word (m := ⟨9, 3⟩) (meth := k9m3) (c := k9c3) (by decide +kernel) rfl rfl rfl (by decide +kernel)
set_option maxRecDepth 65536 in
theorem w_c9 : (Jvm.Cond.code ({ cls := "java/lang/StringUTF16", name := "coderFromArrayLen", desc := "([BI)B" } : Jvm.MethodName) jdk_52_method_15_code (2 : Nat) (Option.some Jvm.ClassFile.FieldType.byte)).before args0 about1 = true := code_word (m := ⟨9, 1⟩) (meth := k9m1) (c := k9c1) (by decide +kernel) rfl rfl rfl (by decide +kernel)
set_option maxRecDepth 65536 in
theorem w_c10 : (Jvm.Cond.code ({ cls := "java/lang/String", name := "equals", desc := "(Ljava/lang/Object;)Z" } : Jvm.MethodName) jdk_42_method_66_code (3 : Nat) (Option.some Jvm.ClassFile.FieldType.boolean)).before args0 about1 = true := code_word (m := ⟨7, 2⟩) (meth := k7m2) (c := k7c2) (by decide +kernel) rfl rfl rfl (by decide +kernel)
set_option maxRecDepth 65536 in
theorem w_c11 : (Jvm.Cond.code ({ cls := "java/lang/StringLatin1", name := "equals", desc := "([B[B)Z" } : Jvm.MethodName) jdk_43_method_13_code (3 : Nat) (Option.some Jvm.ClassFile.FieldType.boolean)).before args0 about1 = true := code_word (m := ⟨10, 1⟩) (meth := k10m1) (c := k10c1) (by decide +kernel) rfl rfl rfl (by decide +kernel)
def codes1 : List Jvm.Cond := [Jvm.Cond.code x code maxLocals ret, Jvm.Cond.code ({ cls := "com/example/appenddb/appenddb/TopicQueueEqualsPinLaw", name := "mk", desc := "(II)Ljava/lang/String;" } : Jvm.MethodName) method_2_code (4 : Nat) (Option.some (Jvm.ClassFile.FieldType.object "java/lang/String")), Jvm.Cond.code ({ cls := "java/lang/String", name := "<init>", desc := "([C)V" } : Jvm.MethodName) jdk_42_method_3_code (2 : Nat) (Option.none : Option Jvm.ClassFile.FieldType), Jvm.Cond.code ({ cls := "java/lang/String", name := "<init>", desc := "([CIILjava/lang/Void;)V" } : Jvm.MethodName) jdk_42_method_149_code (6 : Nat) (Option.none : Option Jvm.ClassFile.FieldType), Jvm.Cond.code ({ cls := "java/lang/Object", name := "<init>", desc := "()V" } : Jvm.MethodName) object_method_1_code (1 : Nat) (Option.none : Option Jvm.ClassFile.FieldType), Jvm.Cond.code ({ cls := "com/example/appenddb/appenddb/TopicQueue", name := "<init>", desc := "(Ljava/lang/String;I)V" } : Jvm.MethodName) prog_8_method_1_code (3 : Nat) (Option.none : Option Jvm.ClassFile.FieldType), Jvm.Cond.code ({ cls := "com/example/appenddb/appenddb/TopicQueue", name := "equals", desc := "(Ljava/lang/Object;)Z" } : Jvm.MethodName) prog_8_method_2_code (3 : Nat) (Option.some Jvm.ClassFile.FieldType.boolean), Jvm.Cond.code ({ cls := "java/lang/StringUTF16", name := "compress", desc := "([CII)[B" } : Jvm.MethodName) jdk_52_method_16_code (6 : Nat) (Option.some (Jvm.ClassFile.FieldType.array Jvm.ClassFile.FieldType.byte)), Jvm.Cond.code ({ cls := "java/lang/StringUTF16", name := "compress", desc := "([CI[BII)I" } : Jvm.MethodName) jdk_52_method_21_code (7 : Nat) (Option.some Jvm.ClassFile.FieldType.int), Jvm.Cond.code ({ cls := "java/lang/StringUTF16", name := "coderFromArrayLen", desc := "([BI)B" } : Jvm.MethodName) jdk_52_method_15_code (2 : Nat) (Option.some Jvm.ClassFile.FieldType.byte), Jvm.Cond.code ({ cls := "java/lang/String", name := "equals", desc := "(Ljava/lang/Object;)Z" } : Jvm.MethodName) jdk_42_method_66_code (3 : Nat) (Option.some Jvm.ClassFile.FieldType.boolean), Jvm.Cond.code ({ cls := "java/lang/StringLatin1", name := "equals", desc := "([B[B)Z" } : Jvm.MethodName) jdk_43_method_13_code (3 : Nat) (Option.some Jvm.ClassFile.FieldType.boolean)]
set_option maxRecDepth 65536 in
theorem codes_eq : words1.filter isCode = codes1 := rfl
theorem w_codes : ∀ c ∈ words1.filter isCode, c.before args0 about1 = true := by
  rw [codes_eq]
  intro c hc
  simp only [codes1, List.mem_cons, List.not_mem_nil, or_false] at hc
  rcases hc with rfl | rfl | rfl | rfl | rfl | rfl | rfl | rfl | rfl | rfl | rfl | rfl
  · exact w_c0
  · exact w_c1
  · exact w_c2
  · exact w_c3
  · exact w_c4
  · exact w_c5
  · exact w_c6
  · exact w_c7
  · exact w_c8
  · exact w_c9
  · exact w_c10
  · exact w_c11
set_option maxRecDepth 65536 in
theorem w_t1 : (words1.take 24).all (fun c => isCode c || c.before args0 about1) = true := by decide +kernel
set_option maxRecDepth 65536 in
theorem w_t2 : ((words1.drop 24).take 24).all (fun c => isCode c || c.before args0 about1) = true := by decide +kernel
set_option maxRecDepth 65536 in
theorem w_t3 : ((words1.drop 24).drop 24).all (fun c => isCode c || c.before args0 about1) = true := by decide +kernel
theorem w_tables : (allAtoms (Jvm.Cond.code x code maxLocals ret :: tables_1)).before args0 about1 = true := by
  rw [allAtoms_all]
  show words1.all (fun c => c.before args0 about1) = true
  refine all_split ?_ w_codes
  rw [← List.take_append_drop 24 words1, List.all_append, w_t1, ← List.take_append_drop 24 (words1.drop 24), List.all_append, w_t2, w_t3]
  rfl
set_option maxRecDepth 65536 in
theorem w_rest : rest_1_c.before args0 about1 = true := by decide +kernel
set_option maxRecDepth 65536 in
theorem w_case : (Jvm.Cond.and given_1 narrow_1).before args0 about1 = true := by decide +kernel
set_option maxRecDepth 65536 in
theorem w_consts : constsHeld consts_1 about1 := Jvm.Lit.constsHeldB_iff.mp (by decide +kernel)
theorem w_applies : (headSpec (Jvm.Cond.code x code maxLocals ret :: tables_1) room_1).applies x e0.platform about1 = true :=
  (Spec.applies_iff w_frames).mpr ⟨w_running, w_runnable, w_alone, w_named, w_hears, w_ripe, w_room, w_tables⟩
theorem atStart : AtStart classFile x code maxLocals ret World_1 tables_1 room_1 Calls_1 rest_1 Pre_1 launch0 p0 e0 about1 theMethod args0 below0 :=
  ⟨lists_1, trivial, launch0.admits_env _ _ _, launch0.least_env, fairChoices_fair.cas, fairChoices_fair.clock, w_frames, w_args, w_heap, w_applies, ⟨w_consts, trivial⟩, w_rest, w_case⟩
end start1
theorem witness_1 : WitnessClaimed_1 := ⟨start1.p0, start1.e0, start1.about1, start1.theMethod, start1.args0, start1.below0, start1.atStart⟩
end Jvm.Pilot.@@N@@
