import JvmDerived
import JvmDerived.Pilot.@@N@@Statement
import JvmDerived.Pilot.@@N@@Code
set_option linter.unusedVariables false
set_option linter.unusedSimpArgs false
namespace Jvm.RoadKit
open Sem ClassFile Op Lib Jvm.Stand Jvm.Free Jvm.LawKit
section Own
variable {p : Program} {l : Launch} {e : Env} {R : Room} {s : State} {m : MethodId} {args : Array Value} {below : List Frame} {meth : Method} {c : Code} {T : State} {locs : List Loc} {cells slots : Nat}
/-- from S the run comes to an end of which K holds -/
def own_Go (p : Program) (e : Env) (below : List Frame) (K : State → Outcome → Prop) (S : State) : Prop := ∃ t o, Steps p.tables e below S t ∧ t.status = .running ∧ Ended t below o ∧ K t o
def own_K (s : State) (Q : Option Value → Heap → List Loc → Prop) (k n : Nat) (t : State) (o : Outcome) : Prop := ∃ v L, o = .returned v ∧ Q v t.heap L ∧ FrameEnd s o t L k n
theorem own_go {K : State → Outcome → Prop} {S S' : State} (h : ∀ t, Steps p.tables e below S' t → Steps p.tables e below S t) (g : own_Go p e below K S') : own_Go p e below K S := by
  obtain ⟨t, o, h1, h2⟩ := g; exact ⟨t, o, h t h1, h2⟩
theorem own_via {K : State → Outcome → Prop} {S S' : State} (h : Steps p.tables e below S S') (g : own_Go p e below K S') : own_Go p e below K S := by
  obtain ⟨t, o, h1, h2⟩ := g; exact ⟨t, o, h.trans h1, h2⟩
variable {Q : Option Value → Heap → List Loc → Prop} {k n : Nat}
theorem own_end (X : Stand p l e R s m args below meth c T locs cells slots) {v : Option Value} (hlk : meth.locks = false) (hv : meth.sig.returnType = none → v = none) (hk : cells ≤ k) (hn : slots ≤ n) (hQ : Q v T.heap locs) {S : State}
    (st : ∀ fs, (∀ (f : JFrame) (acts : List Action), f.method = m → f.locked = none → f.entered = [] → (doReturn e (T.setTop f) acts v).1 = T.setFrames fs) → Steps p.tables e below S (T.setFrames fs)) : own_Go p e below (own_K s Q k n) S := by
  obtain ⟨fs, hr, hrun, hended, hW, hsame⟩ := X.leave hv hlk
  exact ⟨_, _, st fs hr, hrun, hended, v, locs, rfl, hQ, ⟨_, rfl⟩, hW, hsame.mono hk hn⟩
theorem own_ret0 (X : Stand p l e R s m args below meth c T locs cells slots) (hx : p.tables.exec = Jvm.exec) (hlk : meth.locks = false) (hret : meth.sig.returnType = none) {pc : Nat} {Ls : Array Slot} (hd : decode c.code pc = .ok (.return_, 1)) (hk : cells ≤ k) (hn : slots ≤ n) (hQ : Q none T.heap locs) :
    own_Go p e below (own_K s Q k n) (T.setTop (mkF m pc Ls [])) := own_end X hlk (fun _ => rfl) hk hn hQ fun _ hr => X.returnOut hx hret hd hr
theorem own_retN (X : Stand p l e R s m args below meth c T locs cells slots) (hx : p.tables.exec = Jvm.exec) (hlk : meth.locks = false) {t : FieldType} (hret : meth.sig.returnType = some t) (ht : t = .boolean ∨ t = .byte ∨ t = .char ∨ t = .short) {pc : Nat} {Ls : Array Slot} {z : Int32} {rest : List Value} (hd : decode c.code pc = .ok (.ireturn, 1)) (hk : cells ≤ k) (hn : slots ≤ n) (hQ : Q (some (.int (nar t z))) T.heap locs) :
    own_Go p e below (own_K s Q k n) (T.setTop (mkF m pc Ls (.int z :: rest))) := own_end X hlk (fun h => by rw [hret] at h; cases h) hk hn hQ fun _ hr => retN X hx hret ht hd hr
theorem own_retI (X : Stand p l e R s m args below meth c T locs cells slots) (hx : p.tables.exec = Jvm.exec) (hlk : meth.locks = false) (hret : meth.sig.returnType = some .int) {pc : Nat} {Ls : Array Slot} {z : Int32} {rest : List Value} (hd : decode c.code pc = .ok (.ireturn, 1)) (hk : cells ≤ k) (hn : slots ≤ n) (hQ : Q (some (.int z)) T.heap locs) :
    own_Go p e below (own_K s Q k n) (T.setTop (mkF m pc Ls (.int z :: rest))) := own_end X hlk (fun h => by rw [hret] at h; cases h) hk hn hQ fun _ hr => retOut X hx hret rfl (Or.inl ⟨rfl, Or.inl rfl, z, rfl⟩) hd hr
theorem own_retJ (X : Stand p l e R s m args below meth c T locs cells slots) (hx : p.tables.exec = Jvm.exec) (hlk : meth.locks = false) (hret : meth.sig.returnType = some .long) {pc : Nat} {Ls : Array Slot} {z : Int64} {rest : List Value} (hd : decode c.code pc = .ok (.lreturn, 1)) (hk : cells ≤ k) (hn : slots ≤ n) (hQ : Q (some (.long z)) T.heap locs) :
    own_Go p e below (own_K s Q k n) (T.setTop (mkF m pc Ls (.long z :: rest))) := own_end X hlk (fun h => by rw [hret] at h; cases h) hk hn hQ fun _ hr => retOut X hx hret rfl (Or.inr (Or.inl ⟨rfl, rfl, z, rfl⟩)) hd hr
theorem own_retR (X : Stand p l e R s m args below meth c T locs cells slots) (hx : p.tables.exec = Jvm.exec) (hlk : meth.locks = false) {t : FieldType} (hret : meth.sig.returnType = some t) (ht : t.isReference = true) {pc : Nat} {Ls : Array Slot} {w : Value} {rest : List Value} (hw : w.isRef = true) (hd : decode c.code pc = .ok (.areturn, 1)) (hk : cells ≤ k) (hn : slots ≤ n) (hQ : Q (some w) T.heap locs) :
    own_Go p e below (own_K s Q k n) (T.setTop (mkF m pc Ls (w :: rest))) := own_end X hlk (fun h => by rw [hret] at h; cases h) hk hn hQ fun _ hr => retOut X hx hret (by cases t <;> first | rfl | cases ht) (Or.inr (Or.inr (Or.inr (Or.inr ⟨rfl, ht, hw⟩)))) hd hr
section Arrays
variable {Z : State} {h : Heap} {a : Addr} {k : ClassId} {ty : FieldType} {z : Int32} {vs : List Value} {dv : Value}
theorem own_iaload {g : JFrame} {target : State} (X : Stand p l e R s m args below meth c T locs cells slots) (hx : p.tables.exec = Jvm.exec) (hZ : Z.Warmed39 s.vm) (eT : T.heap = h) (F : Arv Z h a k .int z vs dv) (j : Int32) (v : Value) (hj : ¬ j < 0 ∧ j < z) (hat : vs.getD j.toNatClampNeg dv = v) (hg : g.method = m) {rest : List Value} (hs : g.stack = .int j :: .ref a :: rest) (hd : decode c.code g.pc = .ok (.iaload, 1))
    (hr : Steps p.tables e below (T.setTop { g with pc := g.pc + 1, stack := v :: rest }) target) : Steps p.tables e below (T.setTop g) target := by
  obtain ⟨cl, A, q, S, N, H, G⟩ := F
  have hi := inb_of S hj
  exact X.iaload hx (j := j) (v := v) (by rw [eT]; exact A.1) (State.isArrayOf_alike hZ.alike A.2.1) A.2.2 hi (Has.at H hi hat) hg hs hd _ hr
theorem own_caload {g : JFrame} {target : State} (X : Stand p l e R s m args below meth c T locs cells slots) (hx : p.tables.exec = Jvm.exec) (hZ : Z.Warmed39 s.vm) (eT : T.heap = h) (F : Arv Z h a k .char z vs dv) (j : Int32) (v : Value) (hj : ¬ j < 0 ∧ j < z) (hat : vs.getD j.toNatClampNeg dv = v) (hg : g.method = m) {rest : List Value} (hs : g.stack = .int j :: .ref a :: rest) (hd : decode c.code g.pc = .ok (.caload, 1))
    (hr : Steps p.tables e below (T.setTop { g with pc := g.pc + 1, stack := v :: rest }) target) : Steps p.tables e below (T.setTop g) target := by
  obtain ⟨cl, A, q, S, N, H, G⟩ := F
  have hi := inb_of S hj
  exact X.caload hx (j := j) (v := v) (by rw [eT]; exact A.1) (State.isArrayOf_alike hZ.alike A.2.1) A.2.2 hi (Has.at H hi hat) hg hs hd _ hr
theorem own_saload {g : JFrame} {target : State} (X : Stand p l e R s m args below meth c T locs cells slots) (hx : p.tables.exec = Jvm.exec) (hZ : Z.Warmed39 s.vm) (eT : T.heap = h) (F : Arv Z h a k .short z vs dv) (j : Int32) (v : Value) (hj : ¬ j < 0 ∧ j < z) (hat : vs.getD j.toNatClampNeg dv = v) (hg : g.method = m) {rest : List Value} (hs : g.stack = .int j :: .ref a :: rest) (hd : decode c.code g.pc = .ok (.saload, 1))
    (hr : Steps p.tables e below (T.setTop { g with pc := g.pc + 1, stack := v :: rest }) target) : Steps p.tables e below (T.setTop g) target := by
  obtain ⟨cl, A, q, S, N, H, G⟩ := F
  have hi := inb_of S hj
  exact X.saload hx (j := j) (v := v) (by rw [eT]; exact A.1) (State.isArrayOf_alike hZ.alike A.2.1) A.2.2 hi (Has.at H hi hat) hg hs hd _ hr
theorem own_baload {g : JFrame} {target : State} (X : Stand p l e R s m args below meth c T locs cells slots) (hx : p.tables.exec = Jvm.exec) (hZ : Z.Warmed39 s.vm) (eT : T.heap = h) (F : Arv Z h a k .byte z vs dv) (j : Int32) (v : Value) (hj : ¬ j < 0 ∧ j < z) (hat : vs.getD j.toNatClampNeg dv = v) (hg : g.method = m) {rest : List Value} (hs : g.stack = .int j :: .ref a :: rest) (hd : decode c.code g.pc = .ok (.baload, 1))
    (hr : Steps p.tables e below (T.setTop { g with pc := g.pc + 1, stack := v :: rest }) target) : Steps p.tables e below (T.setTop g) target := by
  obtain ⟨cl, A, q, S, N, H, G⟩ := F
  have hi := inb_of S hj
  exact X.baloadBytes hx (j := j) (v := v) (by rw [eT]; exact A.1) (State.isArrayOf_alike hZ.alike A.2.1) A.2.2 hi (Has.at H hi hat) hg hs hd _ hr
theorem own_zaload {g : JFrame} {target : State} (X : Stand p l e R s m args below meth c T locs cells slots) (hx : p.tables.exec = Jvm.exec) (hZ : Z.Warmed39 s.vm) (eT : T.heap = h) (F : Arv Z h a k .boolean z vs dv) (j : Int32) (v : Value) (hj : ¬ j < 0 ∧ j < z) (hat : vs.getD j.toNatClampNeg dv = v) (hg : g.method = m) {rest : List Value} (hs : g.stack = .int j :: .ref a :: rest) (hd : decode c.code g.pc = .ok (.baload, 1))
    (hr : Steps p.tables e below (T.setTop { g with pc := g.pc + 1, stack := v :: rest }) target) : Steps p.tables e below (T.setTop g) target := by
  obtain ⟨cl, A, q, S, N, H, G⟩ := F
  have hi := inb_of S hj
  exact X.baloadBooleans hx (j := j) (v := v) (by rw [eT]; exact A.1) (State.isArrayOf_alike hZ.alike A.2.1) A.2.2 hi (Has.at H hi hat) hg hs hd _ hr
theorem own_laload {g : JFrame} {target : State} (X : Stand p l e R s m args below meth c T locs cells slots) (hx : p.tables.exec = Jvm.exec) (hZ : Z.Warmed39 s.vm) (eT : T.heap = h) (F : Arv Z h a k .long z vs dv) (j : Int32) (v : Value) (hj : ¬ j < 0 ∧ j < z) (hat : vs.getD j.toNatClampNeg dv = v) (hg : g.method = m) {rest : List Value} (hs : g.stack = .int j :: .ref a :: rest) (hd : decode c.code g.pc = .ok (.laload, 1))
    (hr : Steps p.tables e below (T.setTop { g with pc := g.pc + 1, stack := v :: rest }) target) : Steps p.tables e below (T.setTop g) target := by
  obtain ⟨cl, A, q, S, N, H, G⟩ := F
  have hi := inb_of S hj
  exact X.laload hx (j := j) (v := v) (by rw [eT]; exact A.1) (State.isArrayOf_alike hZ.alike A.2.1) A.2.2 hi (Has.at H hi hat) hg hs hd _ hr
theorem own_aaload {g : JFrame} {target : State} (X : Stand p l e R s m args below meth c T locs cells slots) (hx : p.tables.exec = Jvm.exec) (hZ : Z.Warmed39 s.vm) (eT : T.heap = h) (F : Arv Z h a k ty z vs dv) (j : Int32) (v : Value) (hj : ¬ j < 0 ∧ j < z) (hat : vs.getD j.toNatClampNeg dv = v) (hty : ty.isReference = true) (hg : g.method = m) {rest : List Value} (hs : g.stack = .int j :: .ref a :: rest) (hd : decode c.code g.pc = .ok (.aaload, 1))
    (hr : Steps p.tables e below (T.setTop { g with pc := g.pc + 1, stack := v :: rest }) target) : Steps p.tables e below (T.setTop g) target := by
  obtain ⟨cl, A, q, S, N, H, G⟩ := F
  have hi := inb_of S hj
  exact X.aaload hx (j := j) (v := v) (by rw [eT]; exact A.1) (State.isArrayOf_alike hZ.alike A.2.1) hty A.2.2 hi (Has.at H hi hat) hg hs hd _ hr
theorem own_alen {g : JFrame} {target : State} (X : Stand p l e R s m args below meth c T locs cells slots) (hx : p.tables.exec = Jvm.exec) (hZ : Z.Warmed39 s.vm) (eT : T.heap = h) (F : Arv Z h a k ty z vs dv) (hg : g.method = m) {rest : List Value} (hs : g.stack = .ref a :: rest) (hd : decode c.code g.pc = .ok (.arraylength, 1))
    (hr : Steps p.tables e below (T.setTop { g with pc := g.pc + 1, stack := .int z :: rest }) target) : Steps p.tables e below (T.setTop g) target := by
  obtain ⟨cl, A, q, S, N, -, -⟩ := F
  exact X.arraylength hx (by rw [eT]; exact A.1) (State.isArrayOf_alike hZ.alike A.2.1) hg hs hd _ (by rw [len_of S N]; exact hr)
theorem own_stI {K : State → Outcome → Prop} {n0 : Nat} (X : Stand p l e R s m args below meth c T locs cells slots) (hx : p.tables.exec = Jvm.exec) (hZ : Z.Warmed39 s.vm) (eT : T.heap = h) (F : Arv Z h a k .int z vs dv) (j : Int32) (x : Int32) (i : Nat) (hj : ¬ j < 0 ∧ j < z) (hi : j.toNatClampNeg = i) (hl : i < vs.length) (vs' : List Value) (hv : vs.set i (.int x) = vs') (N : Fr n0 locs) (ge : n0 ≤ a) {pc : Nat} {Ls : Array Slot} {rest : List Value} (hd : decode c.code pc = .ok (.iastore, 1))
    (kk : ∀ (T' : State) (h' : Heap) (L' : List Loc), Stand p l e R s m args below meth c T' L' cells slots → T'.heap = h' → Wr h h' a i (.int x) → Fr n0 L' → Arv Z h' a k .int z vs' dv → own_Go p e below K (T'.setTop (mkF m (pc + 1) Ls rest))) : own_Go p e below K (T.setTop (mkF m pc Ls (.int x :: .int j :: .ref a :: rest))) := by
  obtain ⟨cl, A, q, S, M, H, G⟩ := F
  subst hi; subst hv
  obtain ⟨T', h', X', e', W, st⟩ := stI X hx hZ eT A (j := j) (inb_of S hj) (g := mkF m pc Ls (.int x :: .int j :: .ref a :: rest)) rfl rfl hd
  exact own_go st (kk T' h' _ X' e' W (Fr.snoc X' N ge) (Arv.set A q S M H G rfl W _ rfl hl))
theorem own_stJ {K : State → Outcome → Prop} {n0 : Nat} (X : Stand p l e R s m args below meth c T locs cells slots) (hx : p.tables.exec = Jvm.exec) (hZ : Z.Warmed39 s.vm) (eT : T.heap = h) (F : Arv Z h a k .long z vs dv) (j : Int32) (x : Int64) (i : Nat) (hj : ¬ j < 0 ∧ j < z) (hi : j.toNatClampNeg = i) (hl : i < vs.length) (vs' : List Value) (hv : vs.set i (.long x) = vs') (N : Fr n0 locs) (ge : n0 ≤ a) {pc : Nat} {Ls : Array Slot} {rest : List Value} (hd : decode c.code pc = .ok (.lastore, 1))
    (kk : ∀ (T' : State) (h' : Heap) (L' : List Loc), Stand p l e R s m args below meth c T' L' cells slots → T'.heap = h' → Wr h h' a i (.long x) → Fr n0 L' → Arv Z h' a k .long z vs' dv → own_Go p e below K (T'.setTop (mkF m (pc + 1) Ls rest))) : own_Go p e below K (T.setTop (mkF m pc Ls (.long x :: .int j :: .ref a :: rest))) := by
  obtain ⟨cl, A, q, S, M, H, G⟩ := F
  subst hi; subst hv
  obtain ⟨T', h', X', e', W, st⟩ := stJ X hx hZ eT A (j := j) (inb_of S hj) (g := mkF m pc Ls (.long x :: .int j :: .ref a :: rest)) rfl rfl hd
  exact own_go st (kk T' h' _ X' e' W (Fr.snoc X' N ge) (Arv.set A q S M H G rfl W _ rfl hl))
theorem own_stB {K : State → Outcome → Prop} {n0 : Nat} (X : Stand p l e R s m args below meth c T locs cells slots) (hx : p.tables.exec = Jvm.exec) (hZ : Z.Warmed39 s.vm) (eT : T.heap = h) (F : Arv Z h a k .byte z vs dv) (j : Int32) (x x' : Int32) (i : Nat) (hj : ¬ j < 0 ∧ j < z) (hi : j.toNatClampNeg = i) (hl : i < vs.length) (hn : nar .byte x = x') (vs' : List Value) (hv : vs.set i (.int x') = vs') (N : Fr n0 locs) (ge : n0 ≤ a) {pc : Nat} {Ls : Array Slot} {rest : List Value} (hd : decode c.code pc = .ok (.bastore, 1))
    (kk : ∀ (T' : State) (h' : Heap) (L' : List Loc), Stand p l e R s m args below meth c T' L' cells slots → T'.heap = h' → Wr h h' a i (.int x') → Fr n0 L' → Arv Z h' a k .byte z vs' dv → own_Go p e below K (T'.setTop (mkF m (pc + 1) Ls rest))) : own_Go p e below K (T.setTop (mkF m pc Ls (.int x :: .int j :: .ref a :: rest))) := by
  obtain ⟨cl, A, q, S, M, H, G⟩ := F
  subst hn; subst hi; subst hv
  obtain ⟨T', h', X', e', W, st⟩ := stB X hx hZ eT A (j := j) (inb_of S hj) (g := mkF m pc Ls (.int x :: .int j :: .ref a :: rest)) rfl rfl hd
  exact own_go st (kk T' h' _ X' e' W (Fr.snoc X' N ge) (Arv.set A q S M H G (fits_nar_byte _) W _ rfl hl))
theorem own_stZ {K : State → Outcome → Prop} {n0 : Nat} (X : Stand p l e R s m args below meth c T locs cells slots) (hx : p.tables.exec = Jvm.exec) (hZ : Z.Warmed39 s.vm) (eT : T.heap = h) (F : Arv Z h a k .boolean z vs dv) (j : Int32) (x x' : Int32) (i : Nat) (hj : ¬ j < 0 ∧ j < z) (hi : j.toNatClampNeg = i) (hl : i < vs.length) (hn : nar .boolean x = x') (vs' : List Value) (hv : vs.set i (.int x') = vs') (N : Fr n0 locs) (ge : n0 ≤ a) {pc : Nat} {Ls : Array Slot} {rest : List Value} (hd : decode c.code pc = .ok (.bastore, 1))
    (kk : ∀ (T' : State) (h' : Heap) (L' : List Loc), Stand p l e R s m args below meth c T' L' cells slots → T'.heap = h' → Wr h h' a i (.int x') → Fr n0 L' → Arv Z h' a k .boolean z vs' dv → own_Go p e below K (T'.setTop (mkF m (pc + 1) Ls rest))) : own_Go p e below K (T.setTop (mkF m pc Ls (.int x :: .int j :: .ref a :: rest))) := by
  obtain ⟨cl, A, q, S, M, H, G⟩ := F
  subst hn; subst hi; subst hv
  obtain ⟨T', h', X', e', W, st⟩ := stZ X hx hZ eT A (j := j) (inb_of S hj) (g := mkF m pc Ls (.int x :: .int j :: .ref a :: rest)) rfl rfl hd
  exact own_go st (kk T' h' _ X' e' W (Fr.snoc X' N ge) (Arv.set A q S M H G (fits_nar_bool _) W _ rfl hl))
theorem own_stC {K : State → Outcome → Prop} {n0 : Nat} (X : Stand p l e R s m args below meth c T locs cells slots) (hx : p.tables.exec = Jvm.exec) (hZ : Z.Warmed39 s.vm) (eT : T.heap = h) (F : Arv Z h a k .char z vs dv) (j : Int32) (x x' : Int32) (i : Nat) (hj : ¬ j < 0 ∧ j < z) (hi : j.toNatClampNeg = i) (hl : i < vs.length) (hn : nar .char x = x') (vs' : List Value) (hv : vs.set i (.int x') = vs') (N : Fr n0 locs) (ge : n0 ≤ a) {pc : Nat} {Ls : Array Slot} {rest : List Value} (hd : decode c.code pc = .ok (.castore, 1))
    (kk : ∀ (T' : State) (h' : Heap) (L' : List Loc), Stand p l e R s m args below meth c T' L' cells slots → T'.heap = h' → Wr h h' a i (.int x') → Fr n0 L' → Arv Z h' a k .char z vs' dv → own_Go p e below K (T'.setTop (mkF m (pc + 1) Ls rest))) : own_Go p e below K (T.setTop (mkF m pc Ls (.int x :: .int j :: .ref a :: rest))) := by
  obtain ⟨cl, A, q, S, M, H, G⟩ := F
  subst hn; subst hi; subst hv
  obtain ⟨T', h', X', e', W, st⟩ := stC X hx hZ eT A (j := j) (inb_of S hj) (g := mkF m pc Ls (.int x :: .int j :: .ref a :: rest)) rfl rfl hd
  exact own_go st (kk T' h' _ X' e' W (Fr.snoc X' N ge) (Arv.set A q S M H G (fits_nar_char _) W _ rfl hl))
theorem own_stS {K : State → Outcome → Prop} {n0 : Nat} (X : Stand p l e R s m args below meth c T locs cells slots) (hx : p.tables.exec = Jvm.exec) (hZ : Z.Warmed39 s.vm) (eT : T.heap = h) (F : Arv Z h a k .short z vs dv) (j : Int32) (x x' : Int32) (i : Nat) (hj : ¬ j < 0 ∧ j < z) (hi : j.toNatClampNeg = i) (hl : i < vs.length) (hn : nar .short x = x') (vs' : List Value) (hv : vs.set i (.int x') = vs') (N : Fr n0 locs) (ge : n0 ≤ a) {pc : Nat} {Ls : Array Slot} {rest : List Value} (hd : decode c.code pc = .ok (.sastore, 1))
    (kk : ∀ (T' : State) (h' : Heap) (L' : List Loc), Stand p l e R s m args below meth c T' L' cells slots → T'.heap = h' → Wr h h' a i (.int x') → Fr n0 L' → Arv Z h' a k .short z vs' dv → own_Go p e below K (T'.setTop (mkF m (pc + 1) Ls rest))) : own_Go p e below K (T.setTop (mkF m pc Ls (.int x :: .int j :: .ref a :: rest))) := by
  obtain ⟨cl, A, q, S, M, H, G⟩ := F
  subst hn; subst hi; subst hv
  obtain ⟨T', h', X', e', W, st⟩ := stS X hx hZ eT A (j := j) (inb_of S hj) (g := mkF m pc Ls (.int x :: .int j :: .ref a :: rest)) rfl rfl hd
  exact own_go st (kk T' h' _ X' e' W (Fr.snoc X' N ge) (Arv.set A q S M H G (fits_nar_short _) W _ rfl hl))
theorem own_stR {K : State → Outcome → Prop} {n0 : Nat} (X : Stand p l e R s m args below meth c T locs cells slots) (hx : p.tables.exec = Jvm.exec) (hZ : Z.Warmed39 s.vm) (eT : T.heap = h) (F : Arv Z h a k ty z vs dv) (j : Int32) (v : Value) (i : Nat) (hj : ¬ j < 0 ∧ j < z) (hi : j.toNatClampNeg = i) (hl : i < vs.length) (sto : ∀ cl : Cell, Arr Z h a cl ty → cl.cls = k → Sto Z h a v) (hty : ty.isReference = true) (vs' : List Value) (hv : vs.set i v = vs') (N : Fr n0 locs) (ge : n0 ≤ a) {pc : Nat} {Ls : Array Slot} {rest : List Value} (hd : decode c.code pc = .ok (.aastore, 1))
    (kk : ∀ (T' : State) (h' : Heap) (L' : List Loc), Stand p l e R s m args below meth c T' L' cells slots → T'.heap = h' → Wr h h' a i v → Fr n0 L' → Arv Z h' a k ty z vs' dv → own_Go p e below K (T'.setTop (mkF m (pc + 1) Ls rest))) : own_Go p e below K (T.setTop (mkF m pc Ls (v :: .int j :: .ref a :: rest))) := by
  obtain ⟨cl, A, q, S, M, H, G⟩ := F
  subst hi; subst hv
  have so := sto cl A q
  obtain ⟨T', h', X', e', W, st⟩ := stR X hx hZ eT A (j := j) (inb_of S hj) hty so (g := mkF m pc Ls (v :: .int j :: .ref a :: rest)) rfl rfl hd
  have fv : fits ty v = true := by
    rcases so with rfl | ⟨_, _, _, _, _, _, _, y, _, _, _, _, rfl, _⟩ <;> cases ty <;> first | rfl | cases hty
  exact own_go st (kk T' h' _ X' e' W (Fr.snoc X' N ge) (Arv.set A q S M H G fv W _ rfl hl))
end Arrays
section Calls
variable {own : String} {index : Nat} {y z : MethodName} {bytes : ByteArray} {maxL : Nat} {ret : Option FieldType} {rm : Room} {W : Nat} {as' : Array Value} {Z : State} {a0 : Array Value} {h : Heap} {K : State → Outcome → Prop} {pc : Nat} {Ls : Array Slot} {argsL rest stk : List Value} {C : String} {b : Addr}
theorem own_cs (X : Stand p l e R s m args below meth c T locs cells slots) (hx : p.tables.exec = Jvm.exec) (hZ : Z.Warmed39 s.vm) (hown : s.vm.findClass own = some m.cls) (w1 : (Cond.methodLink own index y).before a0 Z = true) (w2 : (Cond.static y).before a0 Z = true) (w3 : (Cond.initialized y.cls).before a0 Z = true) (w4 : (Cond.code y bytes maxL ret).before a0 Z = true)
    (hy : y.cls ≠ "java/lang/invoke/MethodHandle" ∧ y.cls ≠ "java/lang/invoke/VarHandle")
    (hM : MetFree l y (head1 [Cond.code y bytes maxL ret] rm) (fun a U => a = as' ∧ Z.Warmed39 U.vm ∧ U.heap = h) (fun _ _ _ _ _ => True) (fun _ U o U' => ∃ v L, o = .returned v ∧ Q v U'.heap L ∧ FrameEnd U o U' L rm.cells rm.slots))
    (hf : rm.frames + 1 ≤ R.frames) (hl : W + (maxL + 11) + rm.locals ≤ R.locals) (hc : cells + rm.cells ≤ R.cells) (hs : slots + rm.slots ≤ R.slots) (eT : T.heap = h) (hsz : Ls.size = c.maxLocals) (hlen : ∀ sig, parseMethodDescriptor y.desc = some sig → argsL.length = sig.parameters.length)
    (hst : stk = argsL.reverse ++ rest) (has : argsL.toArray = as') (hW : (rest.map fun v => v.category).sum ≤ W) (hd : decode c.code pc = .ok (.invokestatic index, 3))
    (k : ∀ (v : Option Value) (T' : State) (L : List Loc), Stand p l e R s m args below meth c T' (locs ++ L) (cells + rm.cells) (slots + rm.slots) → Q v T'.heap L → own_Go p e below K (T'.setTop (mkF m (pc + 3) Ls (v.toList ++ rest)))) : own_Go p e below K (T.setTop (mkF m pc Ls stk)) := by
  obtain ⟨v, _, ⟨T', L', k', n'⟩, -, X', ⟨L, hQ, h1, h2, h3⟩, st⟩ := Jvm.LawKit.callS X hx (y := y) hown (mvT hZ w1) (mvT hZ w2) (mvT hZ w3) (mvT hZ w4) hy (backOf (W := W) hM hZ w4 w3 hf hl) (g := mkF m pc Ls stk) rfl hsz (argsL := argsL) (rest := rest) hlen hst (by show 2 * 0 + _ ≤ _; simpa using hW) hd (fun _ _ => ⟨has, eT, hc, hs⟩)
  dsimp only [Pt.U, Pt.locs, Pt.cells, Pt.slots] at X' h1 h2 h3 st hQ
  subst h1 h2 h3
  exact own_go st (k v T' L X' hQ)
theorem own_cp (X : Stand p l e R s m args below meth c T locs cells slots) (hx : p.tables.exec = Jvm.exec) (hZ : Z.Warmed39 s.vm) (hown : s.vm.findClass own = some m.cls) (hy1 : y.name = "<init>") (w1 : (Cond.methodLink own index y).before a0 Z = true) (w2 : (Cond.instanceMethod y).before a0 Z = true) (w3 : (Cond.initialized y.cls).before a0 Z = true) (w4 : (Cond.code y bytes maxL none).before a0 Z = true)
    (hy : y.cls ≠ "java/lang/invoke/MethodHandle" ∧ y.cls ≠ "java/lang/invoke/VarHandle")
    (hM : MetFree l y (head1 [Cond.code y bytes maxL none] rm) (fun a U => a = as' ∧ Z.Warmed39 U.vm ∧ U.heap = h) (fun _ _ _ _ _ => True) (fun _ U o U' => ∃ v L, o = .returned v ∧ Q v U'.heap L ∧ FrameEnd U o U' L rm.cells rm.slots))
    (hf : rm.frames + 1 ≤ R.frames) (hl : W + (maxL + 11) + rm.locals ≤ R.locals) (hc : cells + rm.cells ≤ R.cells) (hs : slots + rm.slots ≤ R.slots) (eT : T.heap = h) (hsz : Ls.size = c.maxLocals) (hlen : ∀ sig, parseMethodDescriptor y.desc = some sig → argsL.length = sig.parameters.length)
    (hst : stk = argsL.reverse ++ .ref b :: rest) (has : (.ref b :: argsL).toArray = as') (hW : (rest.map fun v => v.category).sum ≤ W) (hd : decode c.code pc = .ok (.invokespecial index, 3))
    (k : ∀ (v : Option Value) (T' : State) (L : List Loc), Stand p l e R s m args below meth c T' (locs ++ L) (cells + rm.cells) (slots + rm.slots) → Q v T'.heap L → own_Go p e below K (T'.setTop (mkF m (pc + 3) Ls (v.toList ++ rest)))) : own_Go p e below K (T.setTop (mkF m pc Ls stk)) := by
  obtain ⟨v, _, ⟨T', L', k', n'⟩, -, X', ⟨L, hQ, h1, h2, h3⟩, st⟩ := X.specialBack hx (y := y) hy1 hown (mvT hZ w1) (mvT hZ w2) (mvT hZ w4) hy (backOf (W := W) hM hZ w4 w3 hf hl) (g := mkF m pc Ls stk) rfl hsz (Steps.refl _) (a := b) (argsL := argsL) (rest := rest) hlen hst (by show 2 * 0 + _ ≤ _; simpa using hW) hd (fun _ _ => ⟨has, eT, hc, hs⟩)
  dsimp only [Pt.U, Pt.locs, Pt.cells, Pt.slots] at X' h1 h2 h3 st hQ
  subst h1 h2 h3
  exact own_via st (k v T' L X' hQ)
theorem own_cv (X : Stand p l e R s m args below meth c T locs cells slots) (hx : p.tables.exec = Jvm.exec) (hZ : Z.Warmed39 s.vm) (hown : s.vm.findClass own = some m.cls) (nf : NotFace s y) (w1 : (Cond.methodLink own index y).before a0 Z = true) (w2 : (Cond.declares y).before a0 Z = true) (w5 : (Cond.selects C y z).before a0 Z = true) (w6 : (Cond.instanceMethod z).before a0 Z = true) (w3 : (Cond.initialized z.cls).before a0 Z = true) (w4 : (Cond.code z bytes maxL ret).before a0 Z = true)
    (hy : y.cls ≠ "java/lang/invoke/MethodHandle" ∧ y.cls ≠ "java/lang/invoke/VarHandle") (E : Exa Z h b C)
    (hM : MetFree l z (head1 [Cond.code z bytes maxL ret] rm) (fun a U => a = as' ∧ Z.Warmed39 U.vm ∧ U.heap = h) (fun _ _ _ _ _ => True) (fun _ U o U' => ∃ v L, o = .returned v ∧ Q v U'.heap L ∧ FrameEnd U o U' L rm.cells rm.slots))
    (hf : rm.frames + 1 ≤ R.frames) (hl : W + (maxL + 11) + rm.locals ≤ R.locals) (hc : cells + rm.cells ≤ R.cells) (hs : slots + rm.slots ≤ R.slots) (eT : T.heap = h) (hsz : Ls.size = c.maxLocals) (hlen : ∀ sig, parseMethodDescriptor y.desc = some sig → argsL.length = sig.parameters.length)
    (hst : stk = argsL.reverse ++ .ref b :: rest) (has : (.ref b :: argsL).toArray = as') (hW : (rest.map fun v => v.category).sum ≤ W) (hd : decode c.code pc = .ok (.invokevirtual index, 3))
    (k : ∀ (v : Option Value) (T' : State) (L : List Loc), Stand p l e R s m args below meth c T' (locs ++ L) (cells + rm.cells) (slots + rm.slots) → Q v T'.heap L → own_Go p e below K (T'.setTop (mkF m (pc + 3) Ls (v.toList ++ rest)))) : own_Go p e below K (T.setTop (mkF m pc Ls stk)) := by
  obtain ⟨cq, kq, qa, qb, qc⟩ := isOf hZ eT E
  obtain ⟨v, _, ⟨T', L', k', n'⟩, -, X', ⟨L, hQ, h1, h2, h3⟩, st⟩ := X.virtualBack hx (y := y) (z := z) hown (mvT hZ w1) (mvT hZ w2) nf (mvT hZ w5) (mvT hZ w6) hy (backOf (W := W) hM hZ w4 w3 hf hl) qa qc (g := mkF m pc Ls stk) rfl hsz (Steps.refl _) (argsL := argsL) (rest := rest) hlen hst (by show 2 * 0 + _ ≤ _; simpa using hW) hd (fun _ _ => ⟨has, eT, hc, hs⟩)
  dsimp only [Pt.U, Pt.locs, Pt.cells, Pt.slots] at X' h1 h2 h3 st hQ
  subst h1 h2 h3
  exact own_via st (k v T' L X' hQ)
theorem own_cq (X : Stand p l e R s m args below meth c T locs cells slots) (hx : p.tables.exec = Jvm.exec) (hZ : Z.Warmed39 s.vm) (hown : s.vm.findClass own = some m.cls) (w1 : (Cond.methodLink own index y).before a0 Z = true) (w6 : (Cond.instanceMethod y).before a0 Z = true) (w5 : (Cond.selects y.cls y y).before a0 Z = true) (w7 : (Cond.privateMethod y).before a0 Z = true) (w3 : (Cond.initialized y.cls).before a0 Z = true) (w4 : (Cond.code y bytes maxL ret).before a0 Z = true)
    (hy : y.cls ≠ "java/lang/invoke/MethodHandle" ∧ y.cls ≠ "java/lang/invoke/VarHandle") (E : Exa Z h b C)
    (hM : MetFree l y (head1 [Cond.code y bytes maxL ret] rm) (fun a U => a = as' ∧ Z.Warmed39 U.vm ∧ U.heap = h) (fun _ _ _ _ _ => True) (fun _ U o U' => ∃ v L, o = .returned v ∧ Q v U'.heap L ∧ FrameEnd U o U' L rm.cells rm.slots))
    (hf : rm.frames + 1 ≤ R.frames) (hl : W + (maxL + 11) + rm.locals ≤ R.locals) (hc : cells + rm.cells ≤ R.cells) (hs : slots + rm.slots ≤ R.slots) (eT : T.heap = h) (hsz : Ls.size = c.maxLocals) (hlen : ∀ sig, parseMethodDescriptor y.desc = some sig → argsL.length = sig.parameters.length)
    (hst : stk = argsL.reverse ++ .ref b :: rest) (has : (.ref b :: argsL).toArray = as') (hW : (rest.map fun v => v.category).sum ≤ W) (hd : decode c.code pc = .ok (.invokevirtual index, 3))
    (k : ∀ (v : Option Value) (T' : State) (L : List Loc), Stand p l e R s m args below meth c T' (locs ++ L) (cells + rm.cells) (slots + rm.slots) → Q v T'.heap L → own_Go p e below K (T'.setTop (mkF m (pc + 3) Ls (v.toList ++ rest)))) : own_Go p e below K (T.setTop (mkF m pc Ls stk)) := by
  obtain ⟨cq, q1, q2⟩ := E.cell
  obtain ⟨v, _, ⟨T', L', k', n'⟩, -, X', ⟨L, hQ, h1, h2, h3⟩, st⟩ := X.privateBack hx (y := y) hown (mvT hZ w1) (mvT hZ w6) (mvT hZ w5) (Cond.privateMethod_at (mvP hZ w7 (args := #[]))) (mvT hZ w4) hy (backOf (W := W) hM hZ w4 w3 hf hl) (g := mkF m pc Ls stk) rfl hsz (Steps.refl _) (a := b) (by rw [eT]; exact q1) q2 (argsL := argsL) (rest := rest) hlen hst (by show 2 * 0 + _ ≤ _; simpa using hW) hd (fun _ _ => ⟨has, eT, hc, hs⟩)
  dsimp only [Pt.U, Pt.locs, Pt.cells, Pt.slots] at X' h1 h2 h3 st hQ
  subst h1 h2 h3
  exact own_via st (k v T' L X' hQ)
theorem own_cu {owner : String} (X : Stand p l e R s m args below meth c T locs cells slots) (hx : p.tables.exec = Jvm.exec) (hZ : Z.Warmed39 s.vm) (hown : s.vm.findClass own = some m.cls) (w1 : (Cond.methodLink own index y).before a0 Z = true) (w8 : (Cond.sameMethod y.cls owner y.name y.desc).before a0 Z = true) (w2 : (Cond.declares ⟨owner, y.name, y.desc⟩).before a0 Z = true) (w5 : (Cond.selects C y z).before a0 Z = true) (w6 : (Cond.instanceMethod z).before a0 Z = true) (w3 : (Cond.initialized z.cls).before a0 Z = true) (w4 : (Cond.code z bytes maxL ret).before a0 Z = true)
    (hy : owner ≠ "java/lang/invoke/MethodHandle" ∧ owner ≠ "java/lang/invoke/VarHandle") (E : Exa Z h b C)
    (hM : MetFree l z (head1 [Cond.code z bytes maxL ret] rm) (fun a U => a = as' ∧ Z.Warmed39 U.vm ∧ U.heap = h) (fun _ _ _ _ _ => True) (fun _ U o U' => ∃ v L, o = .returned v ∧ Q v U'.heap L ∧ FrameEnd U o U' L rm.cells rm.slots))
    (hf : rm.frames + 1 ≤ R.frames) (hl : W + (maxL + 11) + rm.locals ≤ R.locals) (hc : cells + rm.cells ≤ R.cells) (hs : slots + rm.slots ≤ R.slots) (eT : T.heap = h) (hsz : Ls.size = c.maxLocals) (hlen : ∀ sig, parseMethodDescriptor y.desc = some sig → argsL.length = sig.parameters.length)
    (hst : stk = argsL.reverse ++ .ref b :: rest) (has : (.ref b :: argsL).toArray = as') (hW : (rest.map fun v => v.category).sum ≤ W) (hd : decode c.code pc = .ok (.invokevirtual index, 3))
    (k : ∀ (v : Option Value) (T' : State) (L : List Loc), Stand p l e R s m args below meth c T' (locs ++ L) (cells + rm.cells) (slots + rm.slots) → Q v T'.heap L → own_Go p e below K (T'.setTop (mkF m (pc + 3) Ls (v.toList ++ rest)))) : own_Go p e below K (T.setTop (mkF m pc Ls stk)) := by
  obtain ⟨cq, kq, qa, qb, qc⟩ := isOf hZ eT E
  obtain ⟨v, _, ⟨T', L', k', n'⟩, -, X', ⟨L, hQ, h1, h2, h3⟩, st⟩ := X.virtualBackUp hx (x := y) (y := z) (owner := owner) hown (mvT hZ w1) (mvT hZ w8) (mvT hZ w2) hy (mvT hZ w5) (mvT hZ w6) (backOf (W := W) hM hZ w4 w3 hf hl) qa qc (g := mkF m pc Ls stk) rfl hsz (Steps.refl _) (argsL := argsL) (rest := rest) hlen hst (by show 2 * 0 + _ ≤ _; simpa using hW) hd (fun _ _ => ⟨has, eT, hc, hs⟩)
  dsimp only [Pt.U, Pt.locs, Pt.cells, Pt.slots] at X' h1 h2 h3 st hQ
  subst h1 h2 h3
  exact own_via st (k v T' L X' hQ)
end Calls
theorem own_fld_eq {Z : State} {h : Heap} {a : Addr} {C n d : String} {v w : Value} (F : Fld Z h a C n d v) (G : Fld Z h a C n d w) : v = w := Classical.byContradiction fun q => Fld.ne F G q rfl
theorem own_nsroot {Z : State} {a0 : Array Value} {O K : String} {n : Nat} (w : (Cond.noSuperclass O).before a0 Z = true) (wk : (Cond.instantiable K n).before a0 Z = true) (hn : O ≠ K) : NS Z O K := by
  obtain ⟨c, k, h1, h2, h3, -, -⟩ := Cond.noSuperclass_spec w
  obtain ⟨t, kt, g1, -⟩ := Cond.instantiable_spec wk
  have ne := ids_ne h1 g1 hn
  refine ⟨c, t, h1, g1, fun fuel => ?_⟩
  cases fuel with
  | zero => rfl
  | succ f => simp [Vm.isSubclassAux, ne, h2, h3]
theorem own_nsno {Z : State} {a0 : Array Value} {C S K : String} {n : Nat} (w : (Cond.superclass C S).before a0 Z = true) (wk : (Cond.instantiable K n).before a0 Z = true) (nn : NS Z C K) (hn : C ≠ K) : ∃ c t, Z.vm.findClass C = some c ∧ Z.vm.findClass K = some t ∧ Z.vm.assignable c t = false := by
  obtain ⟨c, t, h0, g0, n3⟩ := nn
  obtain ⟨p, k, kp, h1, h2, h3, h4, h5, -, h7⟩ := Cond.superclass_spec h0 w
  obtain ⟨t', kt, g1, g2, g5, g6, -⟩ := Cond.instantiable_spec wk
  cases g0.symm.trans g1
  have g7 : kt.isInterface = false := by simp only [Bool.or_eq_false_iff] at g6; exact g6.1
  have ne := ids_ne h0 g0 hn
  refine ⟨c, t, h0, g0, ?_⟩
  show Z.vm.assignableAux (255 + 1) c t = false
  simp [Vm.assignableAux, ne, h2, g2, h5, g5, g7, Vm.isSubclass, n3]
theorem own_ns_exa {Z : State} {h : Heap} {a : Addr} {C : String} (F : Exa Z h a C) : ∀ cell : Cell, h[a]? = some cell → cell.vm.isStatics = false := fun cell hc => by
  obtain ⟨c, _, h1, -, -, h4, -⟩ := F; cases h1.symm.trans hc; exact h4
theorem own_ns_arv {Z : State} {h : Heap} {a : Addr} {k : ClassId} {ty : FieldType} {z : Int32} {vs : List Value} {dv : Value} (F : Arv Z h a k ty z vs dv) : ∀ cell : Cell, h[a]? = some cell → cell.vm.isStatics = false := fun cell hc => by
  obtain ⟨c, A, -⟩ := F; cases A.1.symm.trans hc; exact A.plain
theorem own_sta_keep {Z : State} {h h' : Heap} {C f d : String} {v : Value} {ws : List Addr} (F : Sta Z h C f d v) (K : Keep h h' ws) (q : ∀ x ∈ ws, ∀ cell : Cell, h[x]? = some cell → cell.vm.isStatics = false) : Sta Z h' C f d v := by
  obtain ⟨cf, i, k, fl, st, cell, h1, h2, h3, h4, h5, h6, h7⟩ := F
  exact ⟨cf, i, k, fl, st, cell, h1, h2, h3, h4, K.2.1 _ _ h5 (fun hm => by rw [q _ hm _ h5] at h6; cases h6), h6, h7⟩
end Own
end Jvm.RoadKit
namespace Jvm.Pilot.@@N@@
open Jvm Jvm.ClassFile Sem Op Lib Jvm.Free Jvm.Stand Jvm.LawKit Jvm.RoadKit Bundle Jvm.Pilot.@@N@@.Jvm.D
theorem own_m (i : Nat) {d : Jvm.Cond} (h : tables_1[i]? = some d) : d ∈ tables_1 := List.mem_of_getElem? h
theorem own_eq_int {args : Array Value} {s first : State} {o : Option Outcome} {idx : List Nat} {t : Term} {k : Int32} (h : (Cond.eq t (.int k)).value args first o s idx = some true) : t.eval args first o idx s = some (.int k) := by
  obtain ⟨x, y, h1, h2, h3, h4⟩ := cmp_v (r := true) (Or.inl h)
  have e2 : y = .int k := (Option.some.inj h2).symm
  subst e2
  obtain ⟨z, rfl⟩ := h4
  have q := h
  simp only [Cond.value, h1, h2] at q
  have : z = k := by simpa using q
  rw [h1, this]
theorem own_eq_ref {args : Array Value} {s first : State} {o : Option Outcome} {idx : List Nat} {t u : Term} {a : Addr} (hu : u.eval args first o idx s = some (.ref a)) (h : (Cond.eq t u).value args first o s idx = some true) : t.eval args first o idx s = some (.ref a) := by
  obtain ⟨x, y, h1, h2, h3, h4⟩ := cmp_v (r := true) (Or.inl h)
  cases hu.symm.trans h2
  have q := h
  simp only [Cond.value, h1, h2] at q
  cases x <;> simp [Kin, Value.isRef] at h3 h4 q ⊢
  rw [h1, q]
theorem own_d_prog_9_method_2_code_0 : decode prog_9_method_2_code 0 = .ok (.new 8, 3) := by decide +kernel
theorem own_d_prog_9_method_2_code_3 : decode prog_9_method_2_code 3 = .ok (.dup, 1) := by decide +kernel
theorem own_d_prog_9_method_2_code_4 : decode prog_9_method_2_code 4 = .ok (.getstatic 40, 3) := by decide +kernel
theorem own_d_prog_9_method_2_code_7 : decode prog_9_method_2_code 7 = .ok (.lload_n 0, 1) := by decide +kernel
theorem own_d_prog_9_method_2_code_8 : decode prog_9_method_2_code 8 = .ok (.iload_n 2, 1) := by decide +kernel
theorem own_d_prog_9_method_2_code_9 : decode prog_9_method_2_code 9 = .ok (.iload_n 3, 1) := by decide +kernel
theorem own_d_prog_9_method_2_code_10 : decode prog_9_method_2_code 10 = .ok (.lload 4, 2) := by decide +kernel
theorem own_d_prog_9_method_2_code_12 : decode prog_9_method_2_code 12 = .ok (.lload 6, 2) := by decide +kernel
theorem own_d_prog_9_method_2_code_14 : decode prog_9_method_2_code 14 = .ok (.aconst_null, 1) := by decide +kernel
theorem own_d_prog_9_method_2_code_15 : decode prog_9_method_2_code 15 = .ok (.lconst 0, 1) := by decide +kernel
theorem own_d_prog_9_method_2_code_16 : decode prog_9_method_2_code 16 = .ok (.aconst_null, 1) := by decide +kernel
theorem own_d_prog_9_method_2_code_17 : decode prog_9_method_2_code 17 = .ok (.invokespecial 45, 3) := by decide +kernel
theorem own_d_prog_9_method_1_code_0 : decode prog_9_method_1_code 0 = .ok (.aload_n 0, 1) := by decide +kernel
theorem own_d_prog_9_method_1_code_1 : decode prog_9_method_1_code 1 = .ok (.invokespecial 1, 3) := by decide +kernel
theorem own_d_prog_9_method_1_code_4 : decode prog_9_method_1_code 4 = .ok (.aload_n 0, 1) := by decide +kernel
theorem own_d_prog_9_method_1_code_5 : decode prog_9_method_1_code 5 = .ok (.aload_n 1, 1) := by decide +kernel
theorem own_d_prog_9_method_1_code_6 : decode prog_9_method_1_code 6 = .ok (.putfield 7, 3) := by decide +kernel
theorem own_d_prog_9_method_1_code_9 : decode prog_9_method_1_code 9 = .ok (.aload_n 0, 1) := by decide +kernel
theorem own_d_prog_9_method_1_code_10 : decode prog_9_method_1_code 10 = .ok (.lload_n 2, 1) := by decide +kernel
theorem own_d_prog_9_method_1_code_11 : decode prog_9_method_1_code 11 = .ok (.putfield 13, 3) := by decide +kernel
theorem own_d_prog_9_method_1_code_14 : decode prog_9_method_1_code 14 = .ok (.aload_n 0, 1) := by decide +kernel
theorem own_d_prog_9_method_1_code_15 : decode prog_9_method_1_code 15 = .ok (.iload 4, 2) := by decide +kernel
theorem own_d_prog_9_method_1_code_17 : decode prog_9_method_1_code 17 = .ok (.putfield 17, 3) := by decide +kernel
theorem own_d_prog_9_method_1_code_20 : decode prog_9_method_1_code 20 = .ok (.aload_n 0, 1) := by decide +kernel
theorem own_d_prog_9_method_1_code_21 : decode prog_9_method_1_code 21 = .ok (.iload 5, 2) := by decide +kernel
theorem own_d_prog_9_method_1_code_23 : decode prog_9_method_1_code 23 = .ok (.putfield 21, 3) := by decide +kernel
theorem own_d_prog_9_method_1_code_26 : decode prog_9_method_1_code 26 = .ok (.aload_n 0, 1) := by decide +kernel
theorem own_d_prog_9_method_1_code_27 : decode prog_9_method_1_code 27 = .ok (.lload 6, 2) := by decide +kernel
theorem own_d_prog_9_method_1_code_29 : decode prog_9_method_1_code 29 = .ok (.putfield 24, 3) := by decide +kernel
theorem own_d_prog_9_method_1_code_32 : decode prog_9_method_1_code 32 = .ok (.aload_n 0, 1) := by decide +kernel
theorem own_d_prog_9_method_1_code_33 : decode prog_9_method_1_code 33 = .ok (.lload 8, 2) := by decide +kernel
theorem own_d_prog_9_method_1_code_35 : decode prog_9_method_1_code 35 = .ok (.putfield 27, 3) := by decide +kernel
theorem own_d_prog_9_method_1_code_38 : decode prog_9_method_1_code 38 = .ok (.aload_n 0, 1) := by decide +kernel
theorem own_d_prog_9_method_1_code_39 : decode prog_9_method_1_code 39 = .ok (.aload 10, 2) := by decide +kernel
theorem own_d_prog_9_method_1_code_41 : decode prog_9_method_1_code 41 = .ok (.putfield 30, 3) := by decide +kernel
theorem own_d_prog_9_method_1_code_44 : decode prog_9_method_1_code 44 = .ok (.aload_n 0, 1) := by decide +kernel
theorem own_d_prog_9_method_1_code_45 : decode prog_9_method_1_code 45 = .ok (.lload 11, 2) := by decide +kernel
theorem own_d_prog_9_method_1_code_47 : decode prog_9_method_1_code 47 = .ok (.putfield 34, 3) := by decide +kernel
theorem own_d_prog_9_method_1_code_50 : decode prog_9_method_1_code 50 = .ok (.aload_n 0, 1) := by decide +kernel
theorem own_d_prog_9_method_1_code_51 : decode prog_9_method_1_code 51 = .ok (.aload 13, 2) := by decide +kernel
theorem own_d_prog_9_method_1_code_53 : decode prog_9_method_1_code 53 = .ok (.putfield 37, 3) := by decide +kernel
theorem own_d_prog_9_method_1_code_56 : decode prog_9_method_1_code 56 = .ok (.return_, 1) := by decide +kernel
theorem own_pn_com_example_appenddb_appenddb_VerifyResult : plainName "com/example/appenddb/appenddb/VerifyResult" = true := by first | (simp [plainName, overriddenIn]; done) | decide +kernel
def Q_init_0 (Z : State) (o0 : Addr) (o1 : Addr) (z0 : Int64) (y1 : Int32) (y2 : Int32) (z3 : Int64) (z4 : Int64) (h0 : Heap) (n0 : Nat) (v : Option Value) (h : Heap) (L : List Loc) : Prop := (v = none ∧ Fr n0 L ∧ Keep h0 h [o0] ∧ Fld Z h o0 "com/example/appenddb/appenddb/VerifyResult" "status" "Lcom/example/appenddb/appenddb/VerifyResult$Status;" (.ref o1) ∧ Fld Z h o0 "com/example/appenddb/appenddb/VerifyResult" "records" "J" (.long z0) ∧ Fld Z h o0 "com/example/appenddb/appenddb/VerifyResult" "segments" "I" (.int y1) ∧ Fld Z h o0 "com/example/appenddb/appenddb/VerifyResult" "queues" "I" (.int y2) ∧ Fld Z h o0 "com/example/appenddb/appenddb/VerifyResult" "indexEntries" "J" (.long z3) ∧ Fld Z h o0 "com/example/appenddb/appenddb/VerifyResult" "logEnd" "J" (.long z4) ∧ Fld Z h o0 "com/example/appenddb/appenddb/VerifyResult" "file" "Ljava/lang/String;" .null ∧ Fld Z h o0 "com/example/appenddb/appenddb/VerifyResult" "offset" "J" (.long (0 : Int64)) ∧ Fld Z h o0 "com/example/appenddb/appenddb/VerifyResult" "problem" "Ljava/lang/String;" .null)
set_option maxRecDepth 65536 in
set_option maxHeartbeats 40000000 in
theorem rm_init_0 (l : Launch) (Z : State) (a0 : Array Value) (hw : ∀ d ∈ tables_1, d.before a0 Z = true) (ws : List Jvm.Cond) (o0 : Addr) (o1 : Addr) (z0 : Int64) (y1 : Int32) (y2 : Int32) (z3 : Int64) (z4 : Int64) (h0 : Heap) (n0 : Nat) (Z0 : n0 ≤ h0.size) (P0 : Exa Z h0 o0 "com/example/appenddb/appenddb/VerifyResult") (P1 : Fld Z h0 o0 "com/example/appenddb/appenddb/VerifyResult" "status" "Lcom/example/appenddb/appenddb/VerifyResult$Status;" .null) (P2 : Fld Z h0 o0 "com/example/appenddb/appenddb/VerifyResult" "records" "J" (.long (0 : Int64))) (P3 : Fld Z h0 o0 "com/example/appenddb/appenddb/VerifyResult" "segments" "I" (.int (0 : Int32))) (P4 : Fld Z h0 o0 "com/example/appenddb/appenddb/VerifyResult" "queues" "I" (.int (0 : Int32))) (P5 : Fld Z h0 o0 "com/example/appenddb/appenddb/VerifyResult" "indexEntries" "J" (.long (0 : Int64))) (P6 : Fld Z h0 o0 "com/example/appenddb/appenddb/VerifyResult" "logEnd" "J" (.long (0 : Int64))) (P7 : Fld Z h0 o0 "com/example/appenddb/appenddb/VerifyResult" "file" "Ljava/lang/String;" .null) (P8 : Fld Z h0 o0 "com/example/appenddb/appenddb/VerifyResult" "offset" "J" (.long (0 : Int64))) (P9 : Fld Z h0 o0 "com/example/appenddb/appenddb/VerifyResult" "problem" "Ljava/lang/String;" .null) (ge0p : n0 ≤ o0) :
    MetFree l (⟨"com/example/appenddb/appenddb/VerifyResult", "<init>", "(Lcom/example/appenddb/appenddb/VerifyResult$Status;JIIJJLjava/lang/String;JLjava/lang/String;)V"⟩ : MethodName) (head1 (Jvm.Cond.code (⟨"com/example/appenddb/appenddb/VerifyResult", "<init>", "(Lcom/example/appenddb/appenddb/VerifyResult$Status;JIIJJLjava/lang/String;JLjava/lang/String;)V"⟩ : MethodName) prog_9_method_1_code 14 none :: ws) ({ frames := 1, cells := 0, slots := 0, locals := 12 } : Room)) (fun aA U => aA = #[(.ref o0), (.ref o1), (.long z0), (.int y1), (.int y2), (.long z3), (.long z4), .null, (.long (0 : Int64)), .null] ∧ Z.Warmed39 U.vm ∧ U.heap = h0) (fun _ _ _ _ _ => True) (fun _ U o U' => ∃ v L, o = .returned v ∧ Q_init_0 Z o0 o1 z0 y1 y2 z3 z4 h0 n0 v U'.heap L ∧ FrameEnd U o U' L ({ frames := 1, cells := 0, slots := 0, locals := 12 } : Room).cells ({ frames := 1, cells := 0, slots := 0, locals := 12 } : Room).slots) := by
  refine MetFree.of_bodySF (plainFor_of_name own_pn_com_example_appenddb_appenddb_VerifyResult) hisR ?_
  intro p e s m args below meth c s₁ Bd hml0 hP hK
  obtain ⟨rfl, hZ, hh⟩ := hP
  have hx := Bd.exec
  have hby := Bd.bytes
  have hlk : meth.locks = false := BodyLoose.notSynchronized Bd
  have hml : c.maxLocals = 14 := hml0
  have hown : s.vm.findClass "com/example/appenddb/appenddb/VerifyResult" = some m.cls := findClass_of_methodNamed Bd.named
  have hnm := (name_of_methodNamed Bd.named Bd.method).1
  have X0 : Stand p l e ({ frames := 1, cells := 0, slots := 0, locals := 12 } : Room) s m #[(.ref o0), (.ref o1), (.long z0), (.int y1), (.int y2), (.long z3), (.long z4), .null, (.long (0 : Int64)), .null] below meth c s₁ [] 0 0 := Stand.of_body Bd
  have e0 : s₁.heap = h0 := by rw [← hh, Bd.state]; rfl
  have N0 := Fr.nil n0
  have K0 : Keep h0 h0 [o0] := Keep.refl _ _
  show own_Go p e below (own_K s (Q_init_0 Z o0 o1 z0 y1 y2 z3 z4 h0 n0) ({ frames := 1, cells := 0, slots := 0, locals := 12 } : Room).cells ({ frames := 1, cells := 0, slots := 0, locals := 12 } : Room).slots) (s₁.setTop (entryFrame m #[(.ref o0), (.ref o1), (.long z0), (.int y1), (.int y2), (.long z3), (.long z4), .null, (.long (0 : Int64)), .null] 14))
  rw [(by first | (simp [entryFrame, mkF, argsToLocals, Value.category]; done) | rfl : entryFrame m #[(.ref o0), (.ref o1), (.long z0), (.int y1), (.int y2), (.long z3), (.long z4), .null, (.long (0 : Int64)), .null] 14 = mkF m 0 #[.val (.ref o0), .val (.ref o1), .val (.long z0), .second, .val (.int y1), .val (.int y2), .val (.long z3), .second, .val (.long z4), .second, .val .null, .val (.long (0 : Int64)), .second, .val .null] [])]
  show own_Go p e below _ (s₁.setTop (mkF m 0 #[.val (.ref o0), .val (.ref o1), .val (.long z0), .second, .val (.int y1), .val (.int y2), .val (.long z3), .second, .val (.long z4), .second, .val .null, .val (.long (0 : Int64)), .second, .val .null] []))
  refine own_go (fun _ hr => XS.aloadN X0.here hx rfl (hb hby own_d_prog_9_method_1_code_0) rfl rfl hr) ?_
  show own_Go p e below _ (s₁.setTop (mkF m 1 #[.val (.ref o0), .val (.ref o1), .val (.long z0), .second, .val (.int y1), .val (.int y2), .val (.long z3), .second, .val (.long z4), .second, .val .null, .val (.long (0 : Int64)), .second, .val .null] [(.ref o0)]))
  obtain ⟨T1, X1, e1, st1⟩ := initO X0 hx hZ hown (hw _ (own_m 12 rfl)) (hw _ (own_m 13 rfl)) (hw _ (own_m 14 rfl)) e0 (g := (mkF m 1 #[.val (.ref o0), .val (.ref o1), .val (.long z0), .second, .val (.int y1), .val (.int y2), .val (.long z3), .second, .val (.long z4), .second, .val .null, .val (.long (0 : Int64)), .second, .val .null] [(.ref o0)])) rfl (by rw [hml]; rfl) rfl (hb hby own_d_prog_9_method_1_code_1) (by decide) (W := 0) (by show 2 * 0 + _ ≤ _; exact Nat.le_of_eq rfl) (by decide)
  refine own_go st1 ?_
  show own_Go p e below _ (T1.setTop (mkF m 4 #[.val (.ref o0), .val (.ref o1), .val (.long z0), .second, .val (.int y1), .val (.int y2), .val (.long z3), .second, .val (.long z4), .second, .val .null, .val (.long (0 : Int64)), .second, .val .null] []))
  refine own_go (fun _ hr => XS.aloadN X1.here hx rfl (hb hby own_d_prog_9_method_1_code_4) rfl rfl (XS.aloadN X1.here hx rfl (hb hby own_d_prog_9_method_1_code_5) rfl rfl hr)) ?_
  show own_Go p e below _ (T1.setTop (mkF m 6 #[.val (.ref o0), .val (.ref o1), .val (.long z0), .second, .val (.int y1), .val (.int y2), .val (.long z3), .second, .val (.long z4), .second, .val .null, .val (.long (0 : Int64)), .second, .val .null] [(.ref o1), (.ref o0)]))
  obtain ⟨T2, h2, X2, e2, W2, st2⟩ := putF X1 hx hZ hown (host := "") (Or.inl (hw _ (own_m 15 rfl))) Via.refl e1 P1 P0 (Or.inr ⟨(hw _ (own_m 16 rfl)), rfl, hnm⟩) (hw _ (own_m 5 rfl)) (ty := (.object "com/example/appenddb/appenddb/VerifyResult$Status")) (by decide) rfl rfl (g := (mkF m 6 #[.val (.ref o0), .val (.ref o1), .val (.long z0), .second, .val (.int y1), .val (.int y2), .val (.long z3), .second, .val (.long z4), .second, .val .null, .val (.long (0 : Int64)), .second, .val .null] [(.ref o1), (.ref o0)])) rfl rfl (hb hby own_d_prog_9_method_1_code_6)
  refine own_go st2 ?_
  have f3 := P1.same W2
  have N4 := Fr.snoc X2 N0 ge0p
  show own_Go p e below _ (T2.setTop (mkF m 9 #[.val (.ref o0), .val (.ref o1), .val (.long z0), .second, .val (.int y1), .val (.int y2), .val (.long z3), .second, .val (.long z4), .second, .val .null, .val (.long (0 : Int64)), .second, .val .null] []))
  refine own_go (fun _ hr => XS.aloadN X2.here hx rfl (hb hby own_d_prog_9_method_1_code_9) rfl rfl (XS.lloadN X2.here hx rfl (hb hby own_d_prog_9_method_1_code_10) rfl hr)) ?_
  show own_Go p e below _ (T2.setTop (mkF m 11 #[.val (.ref o0), .val (.ref o1), .val (.long z0), .second, .val (.int y1), .val (.int y2), .val (.long z3), .second, .val (.long z4), .second, .val .null, .val (.long (0 : Int64)), .second, .val .null] [(.long z0), (.ref o0)]))
  have f5 := (P0.wr W2)
  have f6 := (P2.other W2 (Or.inr (slot_ne (Or.inr (hw _ (own_m 18 rfl))) (Or.inr (hw _ (own_m 16 rfl))) (by decide) (t := .long) (t' := (.object "com/example/appenddb/appenddb/VerifyResult$Status")) (by decide) (by decide))))
  obtain ⟨T7, h7, X7, e7, W7, st7⟩ := putF X2 hx hZ hown (host := "") (Or.inl (hw _ (own_m 17 rfl))) Via.refl e2 f6 f5 (Or.inr ⟨(hw _ (own_m 18 rfl)), rfl, hnm⟩) (hw _ (own_m 5 rfl)) (ty := .long) (by decide) rfl rfl (g := (mkF m 11 #[.val (.ref o0), .val (.ref o1), .val (.long z0), .second, .val (.int y1), .val (.int y2), .val (.long z3), .second, .val (.long z4), .second, .val .null, .val (.long (0 : Int64)), .second, .val .null] [(.long z0), (.ref o0)])) rfl rfl (hb hby own_d_prog_9_method_1_code_11)
  refine own_go st7 ?_
  have f8 := f6.same W7
  have N9 := Fr.snoc X7 N4 ge0p
  show own_Go p e below _ (T7.setTop (mkF m 14 #[.val (.ref o0), .val (.ref o1), .val (.long z0), .second, .val (.int y1), .val (.int y2), .val (.long z3), .second, .val (.long z4), .second, .val .null, .val (.long (0 : Int64)), .second, .val .null] []))
  refine own_go (fun _ hr => XS.aloadN X7.here hx rfl (hb hby own_d_prog_9_method_1_code_14) rfl rfl (XS.iload X7.here hx rfl (hb hby own_d_prog_9_method_1_code_15) rfl hr)) ?_
  show own_Go p e below _ (T7.setTop (mkF m 17 #[.val (.ref o0), .val (.ref o1), .val (.long z0), .second, .val (.int y1), .val (.int y2), .val (.long z3), .second, .val (.long z4), .second, .val .null, .val (.long (0 : Int64)), .second, .val .null] [(.int y1), (.ref o0)]))
  have f10 := (f5.wr W7)
  have f11 := ((P3.other W2 (Or.inr (slot_ne (Or.inr (hw _ (own_m 20 rfl))) (Or.inr (hw _ (own_m 16 rfl))) (by decide) (t := .int) (t' := (.object "com/example/appenddb/appenddb/VerifyResult$Status")) (by decide) (by decide)))).other W7 (Or.inr (slot_ne (Or.inr (hw _ (own_m 20 rfl))) (Or.inr (hw _ (own_m 18 rfl))) (by decide) (t := .int) (t' := .long) (by decide) (by decide))))
  obtain ⟨T12, h12, X12, e12, W12, st12⟩ := putF X7 hx hZ hown (host := "") (Or.inl (hw _ (own_m 19 rfl))) Via.refl e7 f11 f10 (Or.inr ⟨(hw _ (own_m 20 rfl)), rfl, hnm⟩) (hw _ (own_m 5 rfl)) (ty := .int) (by decide) rfl rfl (g := (mkF m 17 #[.val (.ref o0), .val (.ref o1), .val (.long z0), .second, .val (.int y1), .val (.int y2), .val (.long z3), .second, .val (.long z4), .second, .val .null, .val (.long (0 : Int64)), .second, .val .null] [(.int y1), (.ref o0)])) rfl rfl (hb hby own_d_prog_9_method_1_code_17)
  refine own_go st12 ?_
  have f13 := f11.same W12
  have N14 := Fr.snoc X12 N9 ge0p
  show own_Go p e below _ (T12.setTop (mkF m 20 #[.val (.ref o0), .val (.ref o1), .val (.long z0), .second, .val (.int y1), .val (.int y2), .val (.long z3), .second, .val (.long z4), .second, .val .null, .val (.long (0 : Int64)), .second, .val .null] []))
  refine own_go (fun _ hr => XS.aloadN X12.here hx rfl (hb hby own_d_prog_9_method_1_code_20) rfl rfl (XS.iload X12.here hx rfl (hb hby own_d_prog_9_method_1_code_21) rfl hr)) ?_
  show own_Go p e below _ (T12.setTop (mkF m 23 #[.val (.ref o0), .val (.ref o1), .val (.long z0), .second, .val (.int y1), .val (.int y2), .val (.long z3), .second, .val (.long z4), .second, .val .null, .val (.long (0 : Int64)), .second, .val .null] [(.int y2), (.ref o0)]))
  have f15 := (f10.wr W12)
  have f16 := (((P4.other W2 (Or.inr (slot_ne (Or.inr (hw _ (own_m 22 rfl))) (Or.inr (hw _ (own_m 16 rfl))) (by decide) (t := .int) (t' := (.object "com/example/appenddb/appenddb/VerifyResult$Status")) (by decide) (by decide)))).other W7 (Or.inr (slot_ne (Or.inr (hw _ (own_m 22 rfl))) (Or.inr (hw _ (own_m 18 rfl))) (by decide) (t := .int) (t' := .long) (by decide) (by decide)))).other W12 (Or.inr (slot_ne (Or.inr (hw _ (own_m 22 rfl))) (Or.inr (hw _ (own_m 20 rfl))) (by decide) (t := .int) (t' := .int) (by decide) (by decide))))
  obtain ⟨T17, h17, X17, e17, W17, st17⟩ := putF X12 hx hZ hown (host := "") (Or.inl (hw _ (own_m 21 rfl))) Via.refl e12 f16 f15 (Or.inr ⟨(hw _ (own_m 22 rfl)), rfl, hnm⟩) (hw _ (own_m 5 rfl)) (ty := .int) (by decide) rfl rfl (g := (mkF m 23 #[.val (.ref o0), .val (.ref o1), .val (.long z0), .second, .val (.int y1), .val (.int y2), .val (.long z3), .second, .val (.long z4), .second, .val .null, .val (.long (0 : Int64)), .second, .val .null] [(.int y2), (.ref o0)])) rfl rfl (hb hby own_d_prog_9_method_1_code_23)
  refine own_go st17 ?_
  have f18 := f16.same W17
  have N19 := Fr.snoc X17 N14 ge0p
  show own_Go p e below _ (T17.setTop (mkF m 26 #[.val (.ref o0), .val (.ref o1), .val (.long z0), .second, .val (.int y1), .val (.int y2), .val (.long z3), .second, .val (.long z4), .second, .val .null, .val (.long (0 : Int64)), .second, .val .null] []))
  refine own_go (fun _ hr => XS.aloadN X17.here hx rfl (hb hby own_d_prog_9_method_1_code_26) rfl rfl (XS.lload X17.here hx rfl (hb hby own_d_prog_9_method_1_code_27) rfl hr)) ?_
  show own_Go p e below _ (T17.setTop (mkF m 29 #[.val (.ref o0), .val (.ref o1), .val (.long z0), .second, .val (.int y1), .val (.int y2), .val (.long z3), .second, .val (.long z4), .second, .val .null, .val (.long (0 : Int64)), .second, .val .null] [(.long z3), (.ref o0)]))
  have f20 := (f15.wr W17)
  have f21 := ((((P5.other W2 (Or.inr (slot_ne (Or.inr (hw _ (own_m 24 rfl))) (Or.inr (hw _ (own_m 16 rfl))) (by decide) (t := .long) (t' := (.object "com/example/appenddb/appenddb/VerifyResult$Status")) (by decide) (by decide)))).other W7 (Or.inr (slot_ne (Or.inr (hw _ (own_m 24 rfl))) (Or.inr (hw _ (own_m 18 rfl))) (by decide) (t := .long) (t' := .long) (by decide) (by decide)))).other W12 (Or.inr (slot_ne (Or.inr (hw _ (own_m 24 rfl))) (Or.inr (hw _ (own_m 20 rfl))) (by decide) (t := .long) (t' := .int) (by decide) (by decide)))).other W17 (Or.inr (slot_ne (Or.inr (hw _ (own_m 24 rfl))) (Or.inr (hw _ (own_m 22 rfl))) (by decide) (t := .long) (t' := .int) (by decide) (by decide))))
  obtain ⟨T22, h22, X22, e22, W22, st22⟩ := putF X17 hx hZ hown (host := "") (Or.inl (hw _ (own_m 23 rfl))) Via.refl e17 f21 f20 (Or.inr ⟨(hw _ (own_m 24 rfl)), rfl, hnm⟩) (hw _ (own_m 5 rfl)) (ty := .long) (by decide) rfl rfl (g := (mkF m 29 #[.val (.ref o0), .val (.ref o1), .val (.long z0), .second, .val (.int y1), .val (.int y2), .val (.long z3), .second, .val (.long z4), .second, .val .null, .val (.long (0 : Int64)), .second, .val .null] [(.long z3), (.ref o0)])) rfl rfl (hb hby own_d_prog_9_method_1_code_29)
  refine own_go st22 ?_
  have f23 := f21.same W22
  have N24 := Fr.snoc X22 N19 ge0p
  show own_Go p e below _ (T22.setTop (mkF m 32 #[.val (.ref o0), .val (.ref o1), .val (.long z0), .second, .val (.int y1), .val (.int y2), .val (.long z3), .second, .val (.long z4), .second, .val .null, .val (.long (0 : Int64)), .second, .val .null] []))
  refine own_go (fun _ hr => XS.aloadN X22.here hx rfl (hb hby own_d_prog_9_method_1_code_32) rfl rfl (XS.lload X22.here hx rfl (hb hby own_d_prog_9_method_1_code_33) rfl hr)) ?_
  show own_Go p e below _ (T22.setTop (mkF m 35 #[.val (.ref o0), .val (.ref o1), .val (.long z0), .second, .val (.int y1), .val (.int y2), .val (.long z3), .second, .val (.long z4), .second, .val .null, .val (.long (0 : Int64)), .second, .val .null] [(.long z4), (.ref o0)]))
  have f25 := (f20.wr W22)
  have f26 := (((((P6.other W2 (Or.inr (slot_ne (Or.inr (hw _ (own_m 26 rfl))) (Or.inr (hw _ (own_m 16 rfl))) (by decide) (t := .long) (t' := (.object "com/example/appenddb/appenddb/VerifyResult$Status")) (by decide) (by decide)))).other W7 (Or.inr (slot_ne (Or.inr (hw _ (own_m 26 rfl))) (Or.inr (hw _ (own_m 18 rfl))) (by decide) (t := .long) (t' := .long) (by decide) (by decide)))).other W12 (Or.inr (slot_ne (Or.inr (hw _ (own_m 26 rfl))) (Or.inr (hw _ (own_m 20 rfl))) (by decide) (t := .long) (t' := .int) (by decide) (by decide)))).other W17 (Or.inr (slot_ne (Or.inr (hw _ (own_m 26 rfl))) (Or.inr (hw _ (own_m 22 rfl))) (by decide) (t := .long) (t' := .int) (by decide) (by decide)))).other W22 (Or.inr (slot_ne (Or.inr (hw _ (own_m 26 rfl))) (Or.inr (hw _ (own_m 24 rfl))) (by decide) (t := .long) (t' := .long) (by decide) (by decide))))
  obtain ⟨T27, h27, X27, e27, W27, st27⟩ := putF X22 hx hZ hown (host := "") (Or.inl (hw _ (own_m 25 rfl))) Via.refl e22 f26 f25 (Or.inr ⟨(hw _ (own_m 26 rfl)), rfl, hnm⟩) (hw _ (own_m 5 rfl)) (ty := .long) (by decide) rfl rfl (g := (mkF m 35 #[.val (.ref o0), .val (.ref o1), .val (.long z0), .second, .val (.int y1), .val (.int y2), .val (.long z3), .second, .val (.long z4), .second, .val .null, .val (.long (0 : Int64)), .second, .val .null] [(.long z4), (.ref o0)])) rfl rfl (hb hby own_d_prog_9_method_1_code_35)
  refine own_go st27 ?_
  have f28 := f26.same W27
  have N29 := Fr.snoc X27 N24 ge0p
  show own_Go p e below _ (T27.setTop (mkF m 38 #[.val (.ref o0), .val (.ref o1), .val (.long z0), .second, .val (.int y1), .val (.int y2), .val (.long z3), .second, .val (.long z4), .second, .val .null, .val (.long (0 : Int64)), .second, .val .null] []))
  refine own_go (fun _ hr => XS.aloadN X27.here hx rfl (hb hby own_d_prog_9_method_1_code_38) rfl rfl (XS.aload X27.here hx rfl (hb hby own_d_prog_9_method_1_code_39) rfl rfl hr)) ?_
  show own_Go p e below _ (T27.setTop (mkF m 41 #[.val (.ref o0), .val (.ref o1), .val (.long z0), .second, .val (.int y1), .val (.int y2), .val (.long z3), .second, .val (.long z4), .second, .val .null, .val (.long (0 : Int64)), .second, .val .null] [.null, (.ref o0)]))
  have f30 := (f25.wr W27)
  have f31 := ((((((P7.other W2 (Or.inr (slot_ne (Or.inr (hw _ (own_m 28 rfl))) (Or.inr (hw _ (own_m 16 rfl))) (by decide) (t := (.object "java/lang/String")) (t' := (.object "com/example/appenddb/appenddb/VerifyResult$Status")) (by decide) (by decide)))).other W7 (Or.inr (slot_ne (Or.inr (hw _ (own_m 28 rfl))) (Or.inr (hw _ (own_m 18 rfl))) (by decide) (t := (.object "java/lang/String")) (t' := .long) (by decide) (by decide)))).other W12 (Or.inr (slot_ne (Or.inr (hw _ (own_m 28 rfl))) (Or.inr (hw _ (own_m 20 rfl))) (by decide) (t := (.object "java/lang/String")) (t' := .int) (by decide) (by decide)))).other W17 (Or.inr (slot_ne (Or.inr (hw _ (own_m 28 rfl))) (Or.inr (hw _ (own_m 22 rfl))) (by decide) (t := (.object "java/lang/String")) (t' := .int) (by decide) (by decide)))).other W22 (Or.inr (slot_ne (Or.inr (hw _ (own_m 28 rfl))) (Or.inr (hw _ (own_m 24 rfl))) (by decide) (t := (.object "java/lang/String")) (t' := .long) (by decide) (by decide)))).other W27 (Or.inr (slot_ne (Or.inr (hw _ (own_m 28 rfl))) (Or.inr (hw _ (own_m 26 rfl))) (by decide) (t := (.object "java/lang/String")) (t' := .long) (by decide) (by decide))))
  obtain ⟨T32, h32, X32, e32, W32, st32⟩ := putF X27 hx hZ hown (host := "") (Or.inl (hw _ (own_m 27 rfl))) Via.refl e27 f31 f30 (Or.inr ⟨(hw _ (own_m 28 rfl)), rfl, hnm⟩) (hw _ (own_m 5 rfl)) (ty := (.object "java/lang/String")) (by decide) rfl rfl (g := (mkF m 41 #[.val (.ref o0), .val (.ref o1), .val (.long z0), .second, .val (.int y1), .val (.int y2), .val (.long z3), .second, .val (.long z4), .second, .val .null, .val (.long (0 : Int64)), .second, .val .null] [.null, (.ref o0)])) rfl rfl (hb hby own_d_prog_9_method_1_code_41)
  refine own_go st32 ?_
  have f33 := f31.same W32
  have N34 := Fr.snoc X32 N29 ge0p
  show own_Go p e below _ (T32.setTop (mkF m 44 #[.val (.ref o0), .val (.ref o1), .val (.long z0), .second, .val (.int y1), .val (.int y2), .val (.long z3), .second, .val (.long z4), .second, .val .null, .val (.long (0 : Int64)), .second, .val .null] []))
  refine own_go (fun _ hr => XS.aloadN X32.here hx rfl (hb hby own_d_prog_9_method_1_code_44) rfl rfl (XS.lload X32.here hx rfl (hb hby own_d_prog_9_method_1_code_45) rfl hr)) ?_
  show own_Go p e below _ (T32.setTop (mkF m 47 #[.val (.ref o0), .val (.ref o1), .val (.long z0), .second, .val (.int y1), .val (.int y2), .val (.long z3), .second, .val (.long z4), .second, .val .null, .val (.long (0 : Int64)), .second, .val .null] [(.long (0 : Int64)), (.ref o0)]))
  have f35 := (f30.wr W32)
  have f36 := (((((((P8.other W2 (Or.inr (slot_ne (Or.inr (hw _ (own_m 30 rfl))) (Or.inr (hw _ (own_m 16 rfl))) (by decide) (t := .long) (t' := (.object "com/example/appenddb/appenddb/VerifyResult$Status")) (by decide) (by decide)))).other W7 (Or.inr (slot_ne (Or.inr (hw _ (own_m 30 rfl))) (Or.inr (hw _ (own_m 18 rfl))) (by decide) (t := .long) (t' := .long) (by decide) (by decide)))).other W12 (Or.inr (slot_ne (Or.inr (hw _ (own_m 30 rfl))) (Or.inr (hw _ (own_m 20 rfl))) (by decide) (t := .long) (t' := .int) (by decide) (by decide)))).other W17 (Or.inr (slot_ne (Or.inr (hw _ (own_m 30 rfl))) (Or.inr (hw _ (own_m 22 rfl))) (by decide) (t := .long) (t' := .int) (by decide) (by decide)))).other W22 (Or.inr (slot_ne (Or.inr (hw _ (own_m 30 rfl))) (Or.inr (hw _ (own_m 24 rfl))) (by decide) (t := .long) (t' := .long) (by decide) (by decide)))).other W27 (Or.inr (slot_ne (Or.inr (hw _ (own_m 30 rfl))) (Or.inr (hw _ (own_m 26 rfl))) (by decide) (t := .long) (t' := .long) (by decide) (by decide)))).other W32 (Or.inr (slot_ne (Or.inr (hw _ (own_m 30 rfl))) (Or.inr (hw _ (own_m 28 rfl))) (by decide) (t := .long) (t' := (.object "java/lang/String")) (by decide) (by decide))))
  obtain ⟨T37, h37, X37, e37, W37, st37⟩ := putF X32 hx hZ hown (host := "") (Or.inl (hw _ (own_m 29 rfl))) Via.refl e32 f36 f35 (Or.inr ⟨(hw _ (own_m 30 rfl)), rfl, hnm⟩) (hw _ (own_m 5 rfl)) (ty := .long) (by decide) rfl rfl (g := (mkF m 47 #[.val (.ref o0), .val (.ref o1), .val (.long z0), .second, .val (.int y1), .val (.int y2), .val (.long z3), .second, .val (.long z4), .second, .val .null, .val (.long (0 : Int64)), .second, .val .null] [(.long (0 : Int64)), (.ref o0)])) rfl rfl (hb hby own_d_prog_9_method_1_code_47)
  refine own_go st37 ?_
  have f38 := f36.same W37
  have N39 := Fr.snoc X37 N34 ge0p
  show own_Go p e below _ (T37.setTop (mkF m 50 #[.val (.ref o0), .val (.ref o1), .val (.long z0), .second, .val (.int y1), .val (.int y2), .val (.long z3), .second, .val (.long z4), .second, .val .null, .val (.long (0 : Int64)), .second, .val .null] []))
  refine own_go (fun _ hr => XS.aloadN X37.here hx rfl (hb hby own_d_prog_9_method_1_code_50) rfl rfl (XS.aload X37.here hx rfl (hb hby own_d_prog_9_method_1_code_51) rfl rfl hr)) ?_
  show own_Go p e below _ (T37.setTop (mkF m 53 #[.val (.ref o0), .val (.ref o1), .val (.long z0), .second, .val (.int y1), .val (.int y2), .val (.long z3), .second, .val (.long z4), .second, .val .null, .val (.long (0 : Int64)), .second, .val .null] [.null, (.ref o0)]))
  have f40 := (f35.wr W37)
  have f41 := ((((((((P9.other W2 (Or.inr (slot_ne (Or.inr (hw _ (own_m 32 rfl))) (Or.inr (hw _ (own_m 16 rfl))) (by decide) (t := (.object "java/lang/String")) (t' := (.object "com/example/appenddb/appenddb/VerifyResult$Status")) (by decide) (by decide)))).other W7 (Or.inr (slot_ne (Or.inr (hw _ (own_m 32 rfl))) (Or.inr (hw _ (own_m 18 rfl))) (by decide) (t := (.object "java/lang/String")) (t' := .long) (by decide) (by decide)))).other W12 (Or.inr (slot_ne (Or.inr (hw _ (own_m 32 rfl))) (Or.inr (hw _ (own_m 20 rfl))) (by decide) (t := (.object "java/lang/String")) (t' := .int) (by decide) (by decide)))).other W17 (Or.inr (slot_ne (Or.inr (hw _ (own_m 32 rfl))) (Or.inr (hw _ (own_m 22 rfl))) (by decide) (t := (.object "java/lang/String")) (t' := .int) (by decide) (by decide)))).other W22 (Or.inr (slot_ne (Or.inr (hw _ (own_m 32 rfl))) (Or.inr (hw _ (own_m 24 rfl))) (by decide) (t := (.object "java/lang/String")) (t' := .long) (by decide) (by decide)))).other W27 (Or.inr (slot_ne (Or.inr (hw _ (own_m 32 rfl))) (Or.inr (hw _ (own_m 26 rfl))) (by decide) (t := (.object "java/lang/String")) (t' := .long) (by decide) (by decide)))).other W32 (Or.inr (slot_ne (Or.inr (hw _ (own_m 32 rfl))) (Or.inr (hw _ (own_m 28 rfl))) (by decide) (t := (.object "java/lang/String")) (t' := (.object "java/lang/String")) (by decide) (by decide)))).other W37 (Or.inr (slot_ne (Or.inr (hw _ (own_m 32 rfl))) (Or.inr (hw _ (own_m 30 rfl))) (by decide) (t := (.object "java/lang/String")) (t' := .long) (by decide) (by decide))))
  obtain ⟨T42, h42, X42, e42, W42, st42⟩ := putF X37 hx hZ hown (host := "") (Or.inl (hw _ (own_m 31 rfl))) Via.refl e37 f41 f40 (Or.inr ⟨(hw _ (own_m 32 rfl)), rfl, hnm⟩) (hw _ (own_m 5 rfl)) (ty := (.object "java/lang/String")) (by decide) rfl rfl (g := (mkF m 53 #[.val (.ref o0), .val (.ref o1), .val (.long z0), .second, .val (.int y1), .val (.int y2), .val (.long z3), .second, .val (.long z4), .second, .val .null, .val (.long (0 : Int64)), .second, .val .null] [.null, (.ref o0)])) rfl rfl (hb hby own_d_prog_9_method_1_code_53)
  refine own_go st42 ?_
  have f43 := f41.same W42
  have N44 := Fr.snoc X42 N39 ge0p
  show own_Go p e below _ (T42.setTop (mkF m 56 #[.val (.ref o0), .val (.ref o1), .val (.long z0), .second, .val (.int y1), .val (.int y2), .val (.long z3), .second, .val (.long z4), .second, .val .null, .val (.long (0 : Int64)), .second, .val .null] []))
  have f45 := ((((((((f3.other W7 (Or.inr (slot_ne (Or.inr (hw _ (own_m 16 rfl))) (Or.inr (hw _ (own_m 18 rfl))) (by decide) (t := (.object "com/example/appenddb/appenddb/VerifyResult$Status")) (t' := .long) (by decide) (by decide)))).other W12 (Or.inr (slot_ne (Or.inr (hw _ (own_m 16 rfl))) (Or.inr (hw _ (own_m 20 rfl))) (by decide) (t := (.object "com/example/appenddb/appenddb/VerifyResult$Status")) (t' := .int) (by decide) (by decide)))).other W17 (Or.inr (slot_ne (Or.inr (hw _ (own_m 16 rfl))) (Or.inr (hw _ (own_m 22 rfl))) (by decide) (t := (.object "com/example/appenddb/appenddb/VerifyResult$Status")) (t' := .int) (by decide) (by decide)))).other W22 (Or.inr (slot_ne (Or.inr (hw _ (own_m 16 rfl))) (Or.inr (hw _ (own_m 24 rfl))) (by decide) (t := (.object "com/example/appenddb/appenddb/VerifyResult$Status")) (t' := .long) (by decide) (by decide)))).other W27 (Or.inr (slot_ne (Or.inr (hw _ (own_m 16 rfl))) (Or.inr (hw _ (own_m 26 rfl))) (by decide) (t := (.object "com/example/appenddb/appenddb/VerifyResult$Status")) (t' := .long) (by decide) (by decide)))).other W32 (Or.inr (slot_ne (Or.inr (hw _ (own_m 16 rfl))) (Or.inr (hw _ (own_m 28 rfl))) (by decide) (t := (.object "com/example/appenddb/appenddb/VerifyResult$Status")) (t' := (.object "java/lang/String")) (by decide) (by decide)))).other W37 (Or.inr (slot_ne (Or.inr (hw _ (own_m 16 rfl))) (Or.inr (hw _ (own_m 30 rfl))) (by decide) (t := (.object "com/example/appenddb/appenddb/VerifyResult$Status")) (t' := .long) (by decide) (by decide)))).other W42 (Or.inr (slot_ne (Or.inr (hw _ (own_m 16 rfl))) (Or.inr (hw _ (own_m 32 rfl))) (by decide) (t := (.object "com/example/appenddb/appenddb/VerifyResult$Status")) (t' := (.object "java/lang/String")) (by decide) (by decide))))
  have f46 := (((((((f8.other W12 (Or.inr (slot_ne (Or.inr (hw _ (own_m 18 rfl))) (Or.inr (hw _ (own_m 20 rfl))) (by decide) (t := .long) (t' := .int) (by decide) (by decide)))).other W17 (Or.inr (slot_ne (Or.inr (hw _ (own_m 18 rfl))) (Or.inr (hw _ (own_m 22 rfl))) (by decide) (t := .long) (t' := .int) (by decide) (by decide)))).other W22 (Or.inr (slot_ne (Or.inr (hw _ (own_m 18 rfl))) (Or.inr (hw _ (own_m 24 rfl))) (by decide) (t := .long) (t' := .long) (by decide) (by decide)))).other W27 (Or.inr (slot_ne (Or.inr (hw _ (own_m 18 rfl))) (Or.inr (hw _ (own_m 26 rfl))) (by decide) (t := .long) (t' := .long) (by decide) (by decide)))).other W32 (Or.inr (slot_ne (Or.inr (hw _ (own_m 18 rfl))) (Or.inr (hw _ (own_m 28 rfl))) (by decide) (t := .long) (t' := (.object "java/lang/String")) (by decide) (by decide)))).other W37 (Or.inr (slot_ne (Or.inr (hw _ (own_m 18 rfl))) (Or.inr (hw _ (own_m 30 rfl))) (by decide) (t := .long) (t' := .long) (by decide) (by decide)))).other W42 (Or.inr (slot_ne (Or.inr (hw _ (own_m 18 rfl))) (Or.inr (hw _ (own_m 32 rfl))) (by decide) (t := .long) (t' := (.object "java/lang/String")) (by decide) (by decide))))
  have f47 := ((((((f13.other W17 (Or.inr (slot_ne (Or.inr (hw _ (own_m 20 rfl))) (Or.inr (hw _ (own_m 22 rfl))) (by decide) (t := .int) (t' := .int) (by decide) (by decide)))).other W22 (Or.inr (slot_ne (Or.inr (hw _ (own_m 20 rfl))) (Or.inr (hw _ (own_m 24 rfl))) (by decide) (t := .int) (t' := .long) (by decide) (by decide)))).other W27 (Or.inr (slot_ne (Or.inr (hw _ (own_m 20 rfl))) (Or.inr (hw _ (own_m 26 rfl))) (by decide) (t := .int) (t' := .long) (by decide) (by decide)))).other W32 (Or.inr (slot_ne (Or.inr (hw _ (own_m 20 rfl))) (Or.inr (hw _ (own_m 28 rfl))) (by decide) (t := .int) (t' := (.object "java/lang/String")) (by decide) (by decide)))).other W37 (Or.inr (slot_ne (Or.inr (hw _ (own_m 20 rfl))) (Or.inr (hw _ (own_m 30 rfl))) (by decide) (t := .int) (t' := .long) (by decide) (by decide)))).other W42 (Or.inr (slot_ne (Or.inr (hw _ (own_m 20 rfl))) (Or.inr (hw _ (own_m 32 rfl))) (by decide) (t := .int) (t' := (.object "java/lang/String")) (by decide) (by decide))))
  have f48 := (((((f18.other W22 (Or.inr (slot_ne (Or.inr (hw _ (own_m 22 rfl))) (Or.inr (hw _ (own_m 24 rfl))) (by decide) (t := .int) (t' := .long) (by decide) (by decide)))).other W27 (Or.inr (slot_ne (Or.inr (hw _ (own_m 22 rfl))) (Or.inr (hw _ (own_m 26 rfl))) (by decide) (t := .int) (t' := .long) (by decide) (by decide)))).other W32 (Or.inr (slot_ne (Or.inr (hw _ (own_m 22 rfl))) (Or.inr (hw _ (own_m 28 rfl))) (by decide) (t := .int) (t' := (.object "java/lang/String")) (by decide) (by decide)))).other W37 (Or.inr (slot_ne (Or.inr (hw _ (own_m 22 rfl))) (Or.inr (hw _ (own_m 30 rfl))) (by decide) (t := .int) (t' := .long) (by decide) (by decide)))).other W42 (Or.inr (slot_ne (Or.inr (hw _ (own_m 22 rfl))) (Or.inr (hw _ (own_m 32 rfl))) (by decide) (t := .int) (t' := (.object "java/lang/String")) (by decide) (by decide))))
  have f49 := ((((f23.other W27 (Or.inr (slot_ne (Or.inr (hw _ (own_m 24 rfl))) (Or.inr (hw _ (own_m 26 rfl))) (by decide) (t := .long) (t' := .long) (by decide) (by decide)))).other W32 (Or.inr (slot_ne (Or.inr (hw _ (own_m 24 rfl))) (Or.inr (hw _ (own_m 28 rfl))) (by decide) (t := .long) (t' := (.object "java/lang/String")) (by decide) (by decide)))).other W37 (Or.inr (slot_ne (Or.inr (hw _ (own_m 24 rfl))) (Or.inr (hw _ (own_m 30 rfl))) (by decide) (t := .long) (t' := .long) (by decide) (by decide)))).other W42 (Or.inr (slot_ne (Or.inr (hw _ (own_m 24 rfl))) (Or.inr (hw _ (own_m 32 rfl))) (by decide) (t := .long) (t' := (.object "java/lang/String")) (by decide) (by decide))))
  have f50 := (((f28.other W32 (Or.inr (slot_ne (Or.inr (hw _ (own_m 26 rfl))) (Or.inr (hw _ (own_m 28 rfl))) (by decide) (t := .long) (t' := (.object "java/lang/String")) (by decide) (by decide)))).other W37 (Or.inr (slot_ne (Or.inr (hw _ (own_m 26 rfl))) (Or.inr (hw _ (own_m 30 rfl))) (by decide) (t := .long) (t' := .long) (by decide) (by decide)))).other W42 (Or.inr (slot_ne (Or.inr (hw _ (own_m 26 rfl))) (Or.inr (hw _ (own_m 32 rfl))) (by decide) (t := .long) (t' := (.object "java/lang/String")) (by decide) (by decide))))
  have f51 := ((f33.other W37 (Or.inr (slot_ne (Or.inr (hw _ (own_m 28 rfl))) (Or.inr (hw _ (own_m 30 rfl))) (by decide) (t := (.object "java/lang/String")) (t' := .long) (by decide) (by decide)))).other W42 (Or.inr (slot_ne (Or.inr (hw _ (own_m 28 rfl))) (Or.inr (hw _ (own_m 32 rfl))) (by decide) (t := (.object "java/lang/String")) (t' := (.object "java/lang/String")) (by decide) (by decide))))
  have f52 := (f38.other W42 (Or.inr (slot_ne (Or.inr (hw _ (own_m 30 rfl))) (Or.inr (hw _ (own_m 32 rfl))) (by decide) (t := .long) (t' := (.object "java/lang/String")) (by decide) (by decide))))
  have K53 := (((((((((K0.wr W2 (Or.inl (List.mem_of_getElem? (i := 0) rfl))).wr W7 (Or.inl (List.mem_of_getElem? (i := 0) rfl))).wr W12 (Or.inl (List.mem_of_getElem? (i := 0) rfl))).wr W17 (Or.inl (List.mem_of_getElem? (i := 0) rfl))).wr W22 (Or.inl (List.mem_of_getElem? (i := 0) rfl))).wr W27 (Or.inl (List.mem_of_getElem? (i := 0) rfl))).wr W32 (Or.inl (List.mem_of_getElem? (i := 0) rfl))).wr W37 (Or.inl (List.mem_of_getElem? (i := 0) rfl))).wr W42 (Or.inl (List.mem_of_getElem? (i := 0) rfl)))
  exact own_ret0 X42 hx hlk Bd.returns (hb hby own_d_prog_9_method_1_code_56) (by decide) (by decide) (by rw [e42]; exact ⟨rfl, N44, K53, f45, f46, f47, f48, f49, f50, f51, f52, f43⟩)
theorem own_pd0 : parseMethodDescriptor "(Lcom/example/appenddb/appenddb/VerifyResult$Status;JIIJJLjava/lang/String;JLjava/lang/String;)V" = some ⟨[(.object "com/example/appenddb/appenddb/VerifyResult$Status"), .long, .int, .int, .long, .long, (.object "java/lang/String"), .long, (.object "java/lang/String")], none⟩ := by decide +kernel
theorem own_d_prog_9_method_2_code_20 : decode prog_9_method_2_code 20 = .ok (.areturn, 1) := by decide +kernel
def Q_whole_1 (Z : State) (z0 : Int64) (y1 : Int32) (y2 : Int32) (z3 : Int64) (z4 : Int64) (o0 : Addr) (h0 : Heap) (n0 : Nat) (v : Option Value) (h : Heap) (L : List Loc) : Prop := (∃ (b1 : Addr), v = some (.ref b1) ∧ Fr n0 L ∧ Keep h0 h [] ∧ n0 ≤ b1 ∧ h0.size ≤ b1 ∧ Exa Z h b1 "com/example/appenddb/appenddb/VerifyResult" ∧ Fld Z h b1 "com/example/appenddb/appenddb/VerifyResult" "status" "Lcom/example/appenddb/appenddb/VerifyResult$Status;" (.ref o0) ∧ Fld Z h b1 "com/example/appenddb/appenddb/VerifyResult" "records" "J" (.long z0) ∧ Fld Z h b1 "com/example/appenddb/appenddb/VerifyResult" "segments" "I" (.int y1) ∧ Fld Z h b1 "com/example/appenddb/appenddb/VerifyResult" "queues" "I" (.int y2) ∧ Fld Z h b1 "com/example/appenddb/appenddb/VerifyResult" "indexEntries" "J" (.long z3) ∧ Fld Z h b1 "com/example/appenddb/appenddb/VerifyResult" "logEnd" "J" (.long z4) ∧ Fld Z h b1 "com/example/appenddb/appenddb/VerifyResult" "file" "Ljava/lang/String;" .null ∧ Fld Z h b1 "com/example/appenddb/appenddb/VerifyResult" "offset" "J" (.long (0 : Int64)) ∧ Fld Z h b1 "com/example/appenddb/appenddb/VerifyResult" "problem" "Ljava/lang/String;" .null)
set_option maxRecDepth 65536 in
set_option maxHeartbeats 40000000 in
theorem rm_whole_1 (l : Launch) (Z : State) (a0 : Array Value) (hw : ∀ d ∈ tables_1, d.before a0 Z = true) (ws : List Jvm.Cond) (z0 : Int64) (y1 : Int32) (y2 : Int32) (z3 : Int64) (z4 : Int64) (o0 : Addr) (h0 : Heap) (n0 : Nat) (Z0 : n0 ≤ h0.size) (P0 : Sta Z h0 "com/example/appenddb/appenddb/VerifyResult$Status" "OK" "Lcom/example/appenddb/appenddb/VerifyResult$Status;" (.ref o0)) :
    MetFree l (⟨"com/example/appenddb/appenddb/VerifyResult", "whole", "(JIIJJ)Lcom/example/appenddb/appenddb/VerifyResult;"⟩ : MethodName) (head1 (Jvm.Cond.code (⟨"com/example/appenddb/appenddb/VerifyResult", "whole", "(JIIJJ)Lcom/example/appenddb/appenddb/VerifyResult;"⟩ : MethodName) prog_9_method_2_code 8 (some (.object "com/example/appenddb/appenddb/VerifyResult")) :: ws) ({ frames := 2, cells := 1, slots := 9, locals := 38 } : Room)) (fun aA U => aA = #[(.long z0), (.int y1), (.int y2), (.long z3), (.long z4)] ∧ Z.Warmed39 U.vm ∧ U.heap = h0) (fun _ _ _ _ _ => True) (fun _ U o U' => ∃ v L, o = .returned v ∧ Q_whole_1 Z z0 y1 y2 z3 z4 o0 h0 n0 v U'.heap L ∧ FrameEnd U o U' L ({ frames := 2, cells := 1, slots := 9, locals := 38 } : Room).cells ({ frames := 2, cells := 1, slots := 9, locals := 38 } : Room).slots) := by
  refine MetFree.of_bodySF (plainFor_of_name own_pn_com_example_appenddb_appenddb_VerifyResult) hisR ?_
  intro p e s m args below meth c s₁ Bd hml0 hP hK
  obtain ⟨rfl, hZ, hh⟩ := hP
  have hx := Bd.exec
  have hby := Bd.bytes
  have hlk : meth.locks = false := BodyLoose.notSynchronized Bd
  have hml : c.maxLocals = 8 := hml0
  have hown : s.vm.findClass "com/example/appenddb/appenddb/VerifyResult" = some m.cls := findClass_of_methodNamed Bd.named
  have hnm := (name_of_methodNamed Bd.named Bd.method).1
  have X0 : Stand p l e ({ frames := 2, cells := 1, slots := 9, locals := 38 } : Room) s m #[(.long z0), (.int y1), (.int y2), (.long z3), (.long z4)] below meth c s₁ [] 0 0 := Stand.of_body Bd
  have e0 : s₁.heap = h0 := by rw [← hh, Bd.state]; rfl
  have N0 := Fr.nil n0
  have K0 : Keep h0 h0 [] := Keep.refl _ _
  show own_Go p e below (own_K s (Q_whole_1 Z z0 y1 y2 z3 z4 o0 h0 n0) ({ frames := 2, cells := 1, slots := 9, locals := 38 } : Room).cells ({ frames := 2, cells := 1, slots := 9, locals := 38 } : Room).slots) (s₁.setTop (entryFrame m #[(.long z0), (.int y1), (.int y2), (.long z3), (.long z4)] 8))
  rw [(by first | (simp [entryFrame, mkF, argsToLocals, Value.category]; done) | rfl : entryFrame m #[(.long z0), (.int y1), (.int y2), (.long z3), (.long z4)] 8 = mkF m 0 #[.val (.long z0), .second, .val (.int y1), .val (.int y2), .val (.long z3), .second, .val (.long z4), .second] [])]
  show own_Go p e below _ (s₁.setTop (mkF m 0 #[.val (.long z0), .second, .val (.int y1), .val (.int y2), .val (.long z3), .second, .val (.long z4), .second] []))
  obtain ⟨T1, h1, X1, e1, E1, A1, D1, -, st1⟩ := newO X0 hx hZ hown (hw _ (own_m 4 rfl)) (hw _ (own_m 5 rfl)) (hw _ (own_m 2 rfl)) e0 (g := (mkF m 0 #[.val (.long z0), .second, .val (.int y1), .val (.int y2), .val (.long z3), .second, .val (.long z4), .second] [])) rfl (hb hby own_d_prog_9_method_2_code_0) (by decide) (by decide)
  obtain ⟨b1, g1⟩ : ∃ z, z = h0.size := ⟨_, rfl⟩
  rw [← g1] at A1 D1 st1
  have ge2 : n0 ≤ b1 := Nat.le_trans Z0 (Nat.le_of_eq g1.symm)
  have sz3 : h0.size ≤ b1 := Nat.le_trans K0.1 (Nat.le_of_eq g1.symm)
  refine own_go st1 ?_
  have f4 : Fld Z h1 b1 "com/example/appenddb/appenddb/VerifyResult" "status" "Lcom/example/appenddb/appenddb/VerifyResult$Status;" .null := D1 (Or.inr (hw _ (own_m 16 rfl))) (ty := (.object "com/example/appenddb/appenddb/VerifyResult$Status")) (by decide)
  have f5 : Fld Z h1 b1 "com/example/appenddb/appenddb/VerifyResult" "records" "J" (.long (0 : Int64)) := D1 (Or.inr (hw _ (own_m 18 rfl))) (ty := .long) (by decide)
  have f6 : Fld Z h1 b1 "com/example/appenddb/appenddb/VerifyResult" "segments" "I" (.int (0 : Int32)) := D1 (Or.inr (hw _ (own_m 20 rfl))) (ty := .int) (by decide)
  have f7 : Fld Z h1 b1 "com/example/appenddb/appenddb/VerifyResult" "queues" "I" (.int (0 : Int32)) := D1 (Or.inr (hw _ (own_m 22 rfl))) (ty := .int) (by decide)
  have f8 : Fld Z h1 b1 "com/example/appenddb/appenddb/VerifyResult" "indexEntries" "J" (.long (0 : Int64)) := D1 (Or.inr (hw _ (own_m 24 rfl))) (ty := .long) (by decide)
  have f9 : Fld Z h1 b1 "com/example/appenddb/appenddb/VerifyResult" "logEnd" "J" (.long (0 : Int64)) := D1 (Or.inr (hw _ (own_m 26 rfl))) (ty := .long) (by decide)
  have f10 : Fld Z h1 b1 "com/example/appenddb/appenddb/VerifyResult" "file" "Ljava/lang/String;" .null := D1 (Or.inr (hw _ (own_m 28 rfl))) (ty := (.object "java/lang/String")) (by decide)
  have f11 : Fld Z h1 b1 "com/example/appenddb/appenddb/VerifyResult" "offset" "J" (.long (0 : Int64)) := D1 (Or.inr (hw _ (own_m 30 rfl))) (ty := .long) (by decide)
  have f12 : Fld Z h1 b1 "com/example/appenddb/appenddb/VerifyResult" "problem" "Ljava/lang/String;" .null := D1 (Or.inr (hw _ (own_m 32 rfl))) (ty := (.object "java/lang/String")) (by decide)
  show own_Go p e below _ (T1.setTop (mkF m 3 #[.val (.long z0), .second, .val (.int y1), .val (.int y2), .val (.long z3), .second, .val (.long z4), .second] [(.ref b1)]))
  refine own_go (fun _ hr => XS.dup X1.here hx rfl (hb hby own_d_prog_9_method_2_code_3) rfl rfl hr) ?_
  show own_Go p e below _ (T1.setTop (mkF m 4 #[.val (.long z0), .second, .val (.int y1), .val (.int y2), .val (.long z3), .second, .val (.long z4), .second] [(.ref b1), (.ref b1)]))
  have f13 := (P0.ext E1)
  obtain ⟨T14, X14, e14, st14⟩ := getS2 X1 hx hZ hown (host := "") (Or.inl (hw _ (own_m 6 rfl))) Via.refl e1 f13 (g := (mkF m 4 #[.val (.long z0), .second, .val (.int y1), .val (.int y2), .val (.long z3), .second, .val (.long z4), .second] [(.ref b1), (.ref b1)])) rfl (hb hby own_d_prog_9_method_2_code_4)
  refine own_go st14 ?_
  show own_Go p e below _ (T14.setTop (mkF m 7 #[.val (.long z0), .second, .val (.int y1), .val (.int y2), .val (.long z3), .second, .val (.long z4), .second] [(.ref o0), (.ref b1), (.ref b1)]))
  refine own_go (fun _ hr => XS.lloadN X14.here hx rfl (hb hby own_d_prog_9_method_2_code_7) rfl (XS.iloadN X14.here hx rfl (hb hby own_d_prog_9_method_2_code_8) rfl (XS.iloadN X14.here hx rfl (hb hby own_d_prog_9_method_2_code_9) rfl (XS.lload X14.here hx rfl (hb hby own_d_prog_9_method_2_code_10) rfl (XS.lload X14.here hx rfl (hb hby own_d_prog_9_method_2_code_12) rfl (XS.aconstNull X14.here hx rfl (hb hby own_d_prog_9_method_2_code_14) (XS.lconst X14.here hx rfl (hb hby own_d_prog_9_method_2_code_15) (XS.aconstNull X14.here hx rfl (hb hby own_d_prog_9_method_2_code_16) hr)))))))) ?_
  show own_Go p e below _ (T14.setTop (mkF m 17 #[.val (.long z0), .second, .val (.int y1), .val (.int y2), .val (.long z3), .second, .val (.long z4), .second] [.null, (.long (0 : Int64)), .null, (.long z4), (.long z3), (.int y2), (.int y1), (.long z0), (.ref o0), (.ref b1), (.ref b1)]))
  have Z16 := (Nat.le_trans Z0 E1.1)
  refine own_cp X14 hx hZ hown rfl (hw _ (own_m 9 rfl)) (hw _ (own_m 10 rfl)) (hw _ (own_m 2 rfl)) (hw _ (own_m 11 rfl)) (by decide) (rm := { frames := 1, cells := 0, slots := 0, locals := 12 }) (rm_init_0 l Z a0 hw [] b1 o0 z0 y1 y2 z3 z4 h1 n0 Z16 A1 f4 f5 f6 f7 f8 f9 f10 f11 f12 ge2) (by decide) (W := 1) (by decide) (by decide) (by decide) e14 (by rw [hml]; rfl) (argsL := [(.ref o0), (.long z0), (.int y1), (.int y2), (.long z3), (.long z4), .null, (.long (0 : Int64)), .null]) (lenOf own_pd0 rfl) (rest := [(.ref b1)]) rfl rfl (Nat.le_of_eq rfl) (hb hby own_d_prog_9_method_2_code_17) ?_
  intro _ T15 L15 X15 hQ15
  obtain ⟨rfl, N15q, K15, f15_0, f15_1, f15_2, f15_3, f15_4, f15_5, f15_6, f15_7, f15_8⟩ := hQ15
  have N15 := Fr.app N0 N15q
  show own_Go p e below _ (T15.setTop (mkF m 20 #[.val (.long z0), .second, .val (.int y1), .val (.int y2), .val (.long z3), .second, .val (.long z4), .second] [(.ref b1)]))
  have f17 := (A1.keep K15)
  have K18 := ((K0.ext E1).trans K15 (allS (Or.inr sz3) all0))
  exact own_retR X15 hx hlk Bd.returns rfl rfl (hb hby own_d_prog_9_method_2_code_20) (by decide) (by decide) (by exact ⟨b1, rfl, N15, K18, ge2, sz3, f17, f15_0, f15_1, f15_2, f15_3, f15_4, f15_5, f15_6, f15_7, f15_8⟩)
theorem own_pd1 : parseMethodDescriptor "(JIIJJ)Lcom/example/appenddb/appenddb/VerifyResult;" = some ⟨[.long, .int, .int, .long, .long], some (.object "com/example/appenddb/appenddb/VerifyResult")⟩ := by decide +kernel
theorem own_d_prog_9_method_5_code_0 : decode prog_9_method_5_code 0 = .ok (.aload_n 0, 1) := by decide +kernel
theorem own_d_prog_9_method_5_code_1 : decode prog_9_method_5_code 1 = .ok (.getfield 7, 3) := by decide +kernel
theorem own_d_prog_9_method_5_code_4 : decode prog_9_method_5_code 4 = .ok (.areturn, 1) := by decide +kernel
def Q_getStatus_2 (Z : State) (o1 : Addr) (h0 : Heap) (n0 : Nat) (v : Option Value) (h : Heap) (L : List Loc) : Prop := v = some (.ref o1) ∧ Fr n0 L ∧ h = h0
set_option maxRecDepth 65536 in
set_option maxHeartbeats 40000000 in
theorem rm_getStatus_2 (l : Launch) (Z : State) (a0 : Array Value) (hw : ∀ d ∈ tables_1, d.before a0 Z = true) (ws : List Jvm.Cond) (o0 : Addr) (o1 : Addr) (h0 : Heap) (n0 : Nat) (Z0 : n0 ≤ h0.size) (P0 : Fld Z h0 o0 "com/example/appenddb/appenddb/VerifyResult" "status" "Lcom/example/appenddb/appenddb/VerifyResult$Status;" (.ref o1)) :
    MetFree l (⟨"com/example/appenddb/appenddb/VerifyResult", "getStatus", "()Lcom/example/appenddb/appenddb/VerifyResult$Status;"⟩ : MethodName) (head1 (Jvm.Cond.code (⟨"com/example/appenddb/appenddb/VerifyResult", "getStatus", "()Lcom/example/appenddb/appenddb/VerifyResult$Status;"⟩ : MethodName) prog_9_method_5_code 1 (some (.object "com/example/appenddb/appenddb/VerifyResult$Status")) :: ws) ({ frames := 0, cells := 0, slots := 0, locals := 0 } : Room)) (fun aA U => aA = #[(.ref o0)] ∧ Z.Warmed39 U.vm ∧ U.heap = h0) (fun _ _ _ _ _ => True) (fun _ U o U' => ∃ v L, o = .returned v ∧ Q_getStatus_2 Z o1 h0 n0 v U'.heap L ∧ FrameEnd U o U' L ({ frames := 0, cells := 0, slots := 0, locals := 0 } : Room).cells ({ frames := 0, cells := 0, slots := 0, locals := 0 } : Room).slots) := by
  refine MetFree.of_bodySF (plainFor_of_name own_pn_com_example_appenddb_appenddb_VerifyResult) hisR ?_
  intro p e s m args below meth c s₁ Bd hml0 hP hK
  obtain ⟨rfl, hZ, hh⟩ := hP
  have hx := Bd.exec
  have hby := Bd.bytes
  have hlk : meth.locks = false := BodyLoose.notSynchronized Bd
  have hml : c.maxLocals = 1 := hml0
  have hown : s.vm.findClass "com/example/appenddb/appenddb/VerifyResult" = some m.cls := findClass_of_methodNamed Bd.named
  have hnm := (name_of_methodNamed Bd.named Bd.method).1
  have X0 : Stand p l e ({ frames := 0, cells := 0, slots := 0, locals := 0 } : Room) s m #[(.ref o0)] below meth c s₁ [] 0 0 := Stand.of_body Bd
  have e0 : s₁.heap = h0 := by rw [← hh, Bd.state]; rfl
  have N0 := Fr.nil n0
  show own_Go p e below (own_K s (Q_getStatus_2 Z o1 h0 n0) ({ frames := 0, cells := 0, slots := 0, locals := 0 } : Room).cells ({ frames := 0, cells := 0, slots := 0, locals := 0 } : Room).slots) (s₁.setTop (entryFrame m #[(.ref o0)] 1))
  rw [(by first | (simp [entryFrame, mkF, argsToLocals, Value.category]; done) | rfl : entryFrame m #[(.ref o0)] 1 = mkF m 0 #[.val (.ref o0)] [])]
  show own_Go p e below _ (s₁.setTop (mkF m 0 #[.val (.ref o0)] []))
  refine own_go (fun _ hr => XS.aloadN X0.here hx rfl (hb hby own_d_prog_9_method_5_code_0) rfl rfl hr) ?_
  show own_Go p e below _ (s₁.setTop (mkF m 1 #[.val (.ref o0)] [(.ref o0)]))
  obtain ⟨T1, X1, e1, st1⟩ := getF X0 hx hZ hown (host := "") (Or.inl (hw _ (own_m 15 rfl))) Via.refl e0 P0 (g := (mkF m 1 #[.val (.ref o0)] [(.ref o0)])) rfl rfl (hb hby own_d_prog_9_method_5_code_1)
  refine own_go st1 ?_
  show own_Go p e below _ (T1.setTop (mkF m 4 #[.val (.ref o0)] [(.ref o1)]))
  exact own_retR X1 hx hlk Bd.returns rfl rfl (hb hby own_d_prog_9_method_5_code_4) (by decide) (by decide) ⟨rfl, N0, e1⟩
theorem own_pd2 : parseMethodDescriptor "()Lcom/example/appenddb/appenddb/VerifyResult$Status;" = some ⟨[], some (.object "com/example/appenddb/appenddb/VerifyResult$Status")⟩ := by decide +kernel
theorem own_d_prog_9_method_6_code_0 : decode prog_9_method_6_code 0 = .ok (.aload_n 0, 1) := by decide +kernel
theorem own_d_prog_9_method_6_code_1 : decode prog_9_method_6_code 1 = .ok (.getfield 13, 3) := by decide +kernel
theorem own_d_prog_9_method_6_code_4 : decode prog_9_method_6_code 4 = .ok (.lreturn, 1) := by decide +kernel
def Q_getRecords_3 (Z : State) (z0 : Int64) (h0 : Heap) (n0 : Nat) (v : Option Value) (h : Heap) (L : List Loc) : Prop := v = some (.long z0) ∧ Fr n0 L ∧ h = h0
set_option maxRecDepth 65536 in
set_option maxHeartbeats 40000000 in
theorem rm_getRecords_3 (l : Launch) (Z : State) (a0 : Array Value) (hw : ∀ d ∈ tables_1, d.before a0 Z = true) (ws : List Jvm.Cond) (o0 : Addr) (z0 : Int64) (h0 : Heap) (n0 : Nat) (Z0 : n0 ≤ h0.size) (P0 : Fld Z h0 o0 "com/example/appenddb/appenddb/VerifyResult" "records" "J" (.long z0)) :
    MetFree l (⟨"com/example/appenddb/appenddb/VerifyResult", "getRecords", "()J"⟩ : MethodName) (head1 (Jvm.Cond.code (⟨"com/example/appenddb/appenddb/VerifyResult", "getRecords", "()J"⟩ : MethodName) prog_9_method_6_code 1 (some .long) :: ws) ({ frames := 0, cells := 0, slots := 0, locals := 0 } : Room)) (fun aA U => aA = #[(.ref o0)] ∧ Z.Warmed39 U.vm ∧ U.heap = h0) (fun _ _ _ _ _ => True) (fun _ U o U' => ∃ v L, o = .returned v ∧ Q_getRecords_3 Z z0 h0 n0 v U'.heap L ∧ FrameEnd U o U' L ({ frames := 0, cells := 0, slots := 0, locals := 0 } : Room).cells ({ frames := 0, cells := 0, slots := 0, locals := 0 } : Room).slots) := by
  refine MetFree.of_bodySF (plainFor_of_name own_pn_com_example_appenddb_appenddb_VerifyResult) hisR ?_
  intro p e s m args below meth c s₁ Bd hml0 hP hK
  obtain ⟨rfl, hZ, hh⟩ := hP
  have hx := Bd.exec
  have hby := Bd.bytes
  have hlk : meth.locks = false := BodyLoose.notSynchronized Bd
  have hml : c.maxLocals = 1 := hml0
  have hown : s.vm.findClass "com/example/appenddb/appenddb/VerifyResult" = some m.cls := findClass_of_methodNamed Bd.named
  have hnm := (name_of_methodNamed Bd.named Bd.method).1
  have X0 : Stand p l e ({ frames := 0, cells := 0, slots := 0, locals := 0 } : Room) s m #[(.ref o0)] below meth c s₁ [] 0 0 := Stand.of_body Bd
  have e0 : s₁.heap = h0 := by rw [← hh, Bd.state]; rfl
  have N0 := Fr.nil n0
  show own_Go p e below (own_K s (Q_getRecords_3 Z z0 h0 n0) ({ frames := 0, cells := 0, slots := 0, locals := 0 } : Room).cells ({ frames := 0, cells := 0, slots := 0, locals := 0 } : Room).slots) (s₁.setTop (entryFrame m #[(.ref o0)] 1))
  rw [(by first | (simp [entryFrame, mkF, argsToLocals, Value.category]; done) | rfl : entryFrame m #[(.ref o0)] 1 = mkF m 0 #[.val (.ref o0)] [])]
  show own_Go p e below _ (s₁.setTop (mkF m 0 #[.val (.ref o0)] []))
  refine own_go (fun _ hr => XS.aloadN X0.here hx rfl (hb hby own_d_prog_9_method_6_code_0) rfl rfl hr) ?_
  show own_Go p e below _ (s₁.setTop (mkF m 1 #[.val (.ref o0)] [(.ref o0)]))
  obtain ⟨T1, X1, e1, st1⟩ := getF X0 hx hZ hown (host := "") (Or.inl (hw _ (own_m 17 rfl))) Via.refl e0 P0 (g := (mkF m 1 #[.val (.ref o0)] [(.ref o0)])) rfl rfl (hb hby own_d_prog_9_method_6_code_1)
  refine own_go st1 ?_
  show own_Go p e below _ (T1.setTop (mkF m 4 #[.val (.ref o0)] [(.long z0)]))
  exact own_retJ X1 hx hlk Bd.returns (hb hby own_d_prog_9_method_6_code_4) (by decide) (by decide) ⟨rfl, N0, e1⟩
theorem own_pd3 : parseMethodDescriptor "()J" = some ⟨[], some .long⟩ := by decide +kernel
theorem own_d_prog_9_method_7_code_0 : decode prog_9_method_7_code 0 = .ok (.aload_n 0, 1) := by decide +kernel
theorem own_d_prog_9_method_7_code_1 : decode prog_9_method_7_code 1 = .ok (.getfield 17, 3) := by decide +kernel
theorem own_d_prog_9_method_7_code_4 : decode prog_9_method_7_code 4 = .ok (.ireturn, 1) := by decide +kernel
def Q_getSegments_4 (Z : State) (y0 : Int32) (h0 : Heap) (n0 : Nat) (v : Option Value) (h : Heap) (L : List Loc) : Prop := v = some (.int y0) ∧ Fr n0 L ∧ h = h0
set_option maxRecDepth 65536 in
set_option maxHeartbeats 40000000 in
theorem rm_getSegments_4 (l : Launch) (Z : State) (a0 : Array Value) (hw : ∀ d ∈ tables_1, d.before a0 Z = true) (ws : List Jvm.Cond) (o0 : Addr) (y0 : Int32) (h0 : Heap) (n0 : Nat) (Z0 : n0 ≤ h0.size) (P0 : Fld Z h0 o0 "com/example/appenddb/appenddb/VerifyResult" "segments" "I" (.int y0)) :
    MetFree l (⟨"com/example/appenddb/appenddb/VerifyResult", "getSegments", "()I"⟩ : MethodName) (head1 (Jvm.Cond.code (⟨"com/example/appenddb/appenddb/VerifyResult", "getSegments", "()I"⟩ : MethodName) prog_9_method_7_code 1 (some .int) :: ws) ({ frames := 0, cells := 0, slots := 0, locals := 0 } : Room)) (fun aA U => aA = #[(.ref o0)] ∧ Z.Warmed39 U.vm ∧ U.heap = h0) (fun _ _ _ _ _ => True) (fun _ U o U' => ∃ v L, o = .returned v ∧ Q_getSegments_4 Z y0 h0 n0 v U'.heap L ∧ FrameEnd U o U' L ({ frames := 0, cells := 0, slots := 0, locals := 0 } : Room).cells ({ frames := 0, cells := 0, slots := 0, locals := 0 } : Room).slots) := by
  refine MetFree.of_bodySF (plainFor_of_name own_pn_com_example_appenddb_appenddb_VerifyResult) hisR ?_
  intro p e s m args below meth c s₁ Bd hml0 hP hK
  obtain ⟨rfl, hZ, hh⟩ := hP
  have hx := Bd.exec
  have hby := Bd.bytes
  have hlk : meth.locks = false := BodyLoose.notSynchronized Bd
  have hml : c.maxLocals = 1 := hml0
  have hown : s.vm.findClass "com/example/appenddb/appenddb/VerifyResult" = some m.cls := findClass_of_methodNamed Bd.named
  have hnm := (name_of_methodNamed Bd.named Bd.method).1
  have X0 : Stand p l e ({ frames := 0, cells := 0, slots := 0, locals := 0 } : Room) s m #[(.ref o0)] below meth c s₁ [] 0 0 := Stand.of_body Bd
  have e0 : s₁.heap = h0 := by rw [← hh, Bd.state]; rfl
  have N0 := Fr.nil n0
  show own_Go p e below (own_K s (Q_getSegments_4 Z y0 h0 n0) ({ frames := 0, cells := 0, slots := 0, locals := 0 } : Room).cells ({ frames := 0, cells := 0, slots := 0, locals := 0 } : Room).slots) (s₁.setTop (entryFrame m #[(.ref o0)] 1))
  rw [(by first | (simp [entryFrame, mkF, argsToLocals, Value.category]; done) | rfl : entryFrame m #[(.ref o0)] 1 = mkF m 0 #[.val (.ref o0)] [])]
  show own_Go p e below _ (s₁.setTop (mkF m 0 #[.val (.ref o0)] []))
  refine own_go (fun _ hr => XS.aloadN X0.here hx rfl (hb hby own_d_prog_9_method_7_code_0) rfl rfl hr) ?_
  show own_Go p e below _ (s₁.setTop (mkF m 1 #[.val (.ref o0)] [(.ref o0)]))
  obtain ⟨T1, X1, e1, st1⟩ := getF X0 hx hZ hown (host := "") (Or.inl (hw _ (own_m 19 rfl))) Via.refl e0 P0 (g := (mkF m 1 #[.val (.ref o0)] [(.ref o0)])) rfl rfl (hb hby own_d_prog_9_method_7_code_1)
  refine own_go st1 ?_
  show own_Go p e below _ (T1.setTop (mkF m 4 #[.val (.ref o0)] [(.int y0)]))
  exact own_retI X1 hx hlk Bd.returns (hb hby own_d_prog_9_method_7_code_4) (by decide) (by decide) ⟨rfl, N0, e1⟩
theorem own_pd4 : parseMethodDescriptor "()I" = some ⟨[], some .int⟩ := by decide +kernel
theorem own_d_prog_9_method_8_code_0 : decode prog_9_method_8_code 0 = .ok (.aload_n 0, 1) := by decide +kernel
theorem own_d_prog_9_method_8_code_1 : decode prog_9_method_8_code 1 = .ok (.getfield 21, 3) := by decide +kernel
theorem own_d_prog_9_method_8_code_4 : decode prog_9_method_8_code 4 = .ok (.ireturn, 1) := by decide +kernel
def Q_getQueues_5 (Z : State) (y0 : Int32) (h0 : Heap) (n0 : Nat) (v : Option Value) (h : Heap) (L : List Loc) : Prop := v = some (.int y0) ∧ Fr n0 L ∧ h = h0
set_option maxRecDepth 65536 in
set_option maxHeartbeats 40000000 in
theorem rm_getQueues_5 (l : Launch) (Z : State) (a0 : Array Value) (hw : ∀ d ∈ tables_1, d.before a0 Z = true) (ws : List Jvm.Cond) (o0 : Addr) (y0 : Int32) (h0 : Heap) (n0 : Nat) (Z0 : n0 ≤ h0.size) (P0 : Fld Z h0 o0 "com/example/appenddb/appenddb/VerifyResult" "queues" "I" (.int y0)) :
    MetFree l (⟨"com/example/appenddb/appenddb/VerifyResult", "getQueues", "()I"⟩ : MethodName) (head1 (Jvm.Cond.code (⟨"com/example/appenddb/appenddb/VerifyResult", "getQueues", "()I"⟩ : MethodName) prog_9_method_8_code 1 (some .int) :: ws) ({ frames := 0, cells := 0, slots := 0, locals := 0 } : Room)) (fun aA U => aA = #[(.ref o0)] ∧ Z.Warmed39 U.vm ∧ U.heap = h0) (fun _ _ _ _ _ => True) (fun _ U o U' => ∃ v L, o = .returned v ∧ Q_getQueues_5 Z y0 h0 n0 v U'.heap L ∧ FrameEnd U o U' L ({ frames := 0, cells := 0, slots := 0, locals := 0 } : Room).cells ({ frames := 0, cells := 0, slots := 0, locals := 0 } : Room).slots) := by
  refine MetFree.of_bodySF (plainFor_of_name own_pn_com_example_appenddb_appenddb_VerifyResult) hisR ?_
  intro p e s m args below meth c s₁ Bd hml0 hP hK
  obtain ⟨rfl, hZ, hh⟩ := hP
  have hx := Bd.exec
  have hby := Bd.bytes
  have hlk : meth.locks = false := BodyLoose.notSynchronized Bd
  have hml : c.maxLocals = 1 := hml0
  have hown : s.vm.findClass "com/example/appenddb/appenddb/VerifyResult" = some m.cls := findClass_of_methodNamed Bd.named
  have hnm := (name_of_methodNamed Bd.named Bd.method).1
  have X0 : Stand p l e ({ frames := 0, cells := 0, slots := 0, locals := 0 } : Room) s m #[(.ref o0)] below meth c s₁ [] 0 0 := Stand.of_body Bd
  have e0 : s₁.heap = h0 := by rw [← hh, Bd.state]; rfl
  have N0 := Fr.nil n0
  show own_Go p e below (own_K s (Q_getQueues_5 Z y0 h0 n0) ({ frames := 0, cells := 0, slots := 0, locals := 0 } : Room).cells ({ frames := 0, cells := 0, slots := 0, locals := 0 } : Room).slots) (s₁.setTop (entryFrame m #[(.ref o0)] 1))
  rw [(by first | (simp [entryFrame, mkF, argsToLocals, Value.category]; done) | rfl : entryFrame m #[(.ref o0)] 1 = mkF m 0 #[.val (.ref o0)] [])]
  show own_Go p e below _ (s₁.setTop (mkF m 0 #[.val (.ref o0)] []))
  refine own_go (fun _ hr => XS.aloadN X0.here hx rfl (hb hby own_d_prog_9_method_8_code_0) rfl rfl hr) ?_
  show own_Go p e below _ (s₁.setTop (mkF m 1 #[.val (.ref o0)] [(.ref o0)]))
  obtain ⟨T1, X1, e1, st1⟩ := getF X0 hx hZ hown (host := "") (Or.inl (hw _ (own_m 21 rfl))) Via.refl e0 P0 (g := (mkF m 1 #[.val (.ref o0)] [(.ref o0)])) rfl rfl (hb hby own_d_prog_9_method_8_code_1)
  refine own_go st1 ?_
  show own_Go p e below _ (T1.setTop (mkF m 4 #[.val (.ref o0)] [(.int y0)]))
  exact own_retI X1 hx hlk Bd.returns (hb hby own_d_prog_9_method_8_code_4) (by decide) (by decide) ⟨rfl, N0, e1⟩
theorem own_d_prog_9_method_9_code_0 : decode prog_9_method_9_code 0 = .ok (.aload_n 0, 1) := by decide +kernel
theorem own_d_prog_9_method_9_code_1 : decode prog_9_method_9_code 1 = .ok (.getfield 24, 3) := by decide +kernel
theorem own_d_prog_9_method_9_code_4 : decode prog_9_method_9_code 4 = .ok (.lreturn, 1) := by decide +kernel
def Q_getIndexEntries_6 (Z : State) (z0 : Int64) (h0 : Heap) (n0 : Nat) (v : Option Value) (h : Heap) (L : List Loc) : Prop := v = some (.long z0) ∧ Fr n0 L ∧ h = h0
set_option maxRecDepth 65536 in
set_option maxHeartbeats 40000000 in
theorem rm_getIndexEntries_6 (l : Launch) (Z : State) (a0 : Array Value) (hw : ∀ d ∈ tables_1, d.before a0 Z = true) (ws : List Jvm.Cond) (o0 : Addr) (z0 : Int64) (h0 : Heap) (n0 : Nat) (Z0 : n0 ≤ h0.size) (P0 : Fld Z h0 o0 "com/example/appenddb/appenddb/VerifyResult" "indexEntries" "J" (.long z0)) :
    MetFree l (⟨"com/example/appenddb/appenddb/VerifyResult", "getIndexEntries", "()J"⟩ : MethodName) (head1 (Jvm.Cond.code (⟨"com/example/appenddb/appenddb/VerifyResult", "getIndexEntries", "()J"⟩ : MethodName) prog_9_method_9_code 1 (some .long) :: ws) ({ frames := 0, cells := 0, slots := 0, locals := 0 } : Room)) (fun aA U => aA = #[(.ref o0)] ∧ Z.Warmed39 U.vm ∧ U.heap = h0) (fun _ _ _ _ _ => True) (fun _ U o U' => ∃ v L, o = .returned v ∧ Q_getIndexEntries_6 Z z0 h0 n0 v U'.heap L ∧ FrameEnd U o U' L ({ frames := 0, cells := 0, slots := 0, locals := 0 } : Room).cells ({ frames := 0, cells := 0, slots := 0, locals := 0 } : Room).slots) := by
  refine MetFree.of_bodySF (plainFor_of_name own_pn_com_example_appenddb_appenddb_VerifyResult) hisR ?_
  intro p e s m args below meth c s₁ Bd hml0 hP hK
  obtain ⟨rfl, hZ, hh⟩ := hP
  have hx := Bd.exec
  have hby := Bd.bytes
  have hlk : meth.locks = false := BodyLoose.notSynchronized Bd
  have hml : c.maxLocals = 1 := hml0
  have hown : s.vm.findClass "com/example/appenddb/appenddb/VerifyResult" = some m.cls := findClass_of_methodNamed Bd.named
  have hnm := (name_of_methodNamed Bd.named Bd.method).1
  have X0 : Stand p l e ({ frames := 0, cells := 0, slots := 0, locals := 0 } : Room) s m #[(.ref o0)] below meth c s₁ [] 0 0 := Stand.of_body Bd
  have e0 : s₁.heap = h0 := by rw [← hh, Bd.state]; rfl
  have N0 := Fr.nil n0
  show own_Go p e below (own_K s (Q_getIndexEntries_6 Z z0 h0 n0) ({ frames := 0, cells := 0, slots := 0, locals := 0 } : Room).cells ({ frames := 0, cells := 0, slots := 0, locals := 0 } : Room).slots) (s₁.setTop (entryFrame m #[(.ref o0)] 1))
  rw [(by first | (simp [entryFrame, mkF, argsToLocals, Value.category]; done) | rfl : entryFrame m #[(.ref o0)] 1 = mkF m 0 #[.val (.ref o0)] [])]
  show own_Go p e below _ (s₁.setTop (mkF m 0 #[.val (.ref o0)] []))
  refine own_go (fun _ hr => XS.aloadN X0.here hx rfl (hb hby own_d_prog_9_method_9_code_0) rfl rfl hr) ?_
  show own_Go p e below _ (s₁.setTop (mkF m 1 #[.val (.ref o0)] [(.ref o0)]))
  obtain ⟨T1, X1, e1, st1⟩ := getF X0 hx hZ hown (host := "") (Or.inl (hw _ (own_m 23 rfl))) Via.refl e0 P0 (g := (mkF m 1 #[.val (.ref o0)] [(.ref o0)])) rfl rfl (hb hby own_d_prog_9_method_9_code_1)
  refine own_go st1 ?_
  show own_Go p e below _ (T1.setTop (mkF m 4 #[.val (.ref o0)] [(.long z0)]))
  exact own_retJ X1 hx hlk Bd.returns (hb hby own_d_prog_9_method_9_code_4) (by decide) (by decide) ⟨rfl, N0, e1⟩
theorem own_d_prog_9_method_10_code_0 : decode prog_9_method_10_code 0 = .ok (.aload_n 0, 1) := by decide +kernel
theorem own_d_prog_9_method_10_code_1 : decode prog_9_method_10_code 1 = .ok (.getfield 27, 3) := by decide +kernel
theorem own_d_prog_9_method_10_code_4 : decode prog_9_method_10_code 4 = .ok (.lreturn, 1) := by decide +kernel
def Q_getLogEnd_7 (Z : State) (z0 : Int64) (h0 : Heap) (n0 : Nat) (v : Option Value) (h : Heap) (L : List Loc) : Prop := v = some (.long z0) ∧ Fr n0 L ∧ h = h0
set_option maxRecDepth 65536 in
set_option maxHeartbeats 40000000 in
theorem rm_getLogEnd_7 (l : Launch) (Z : State) (a0 : Array Value) (hw : ∀ d ∈ tables_1, d.before a0 Z = true) (ws : List Jvm.Cond) (o0 : Addr) (z0 : Int64) (h0 : Heap) (n0 : Nat) (Z0 : n0 ≤ h0.size) (P0 : Fld Z h0 o0 "com/example/appenddb/appenddb/VerifyResult" "logEnd" "J" (.long z0)) :
    MetFree l (⟨"com/example/appenddb/appenddb/VerifyResult", "getLogEnd", "()J"⟩ : MethodName) (head1 (Jvm.Cond.code (⟨"com/example/appenddb/appenddb/VerifyResult", "getLogEnd", "()J"⟩ : MethodName) prog_9_method_10_code 1 (some .long) :: ws) ({ frames := 0, cells := 0, slots := 0, locals := 0 } : Room)) (fun aA U => aA = #[(.ref o0)] ∧ Z.Warmed39 U.vm ∧ U.heap = h0) (fun _ _ _ _ _ => True) (fun _ U o U' => ∃ v L, o = .returned v ∧ Q_getLogEnd_7 Z z0 h0 n0 v U'.heap L ∧ FrameEnd U o U' L ({ frames := 0, cells := 0, slots := 0, locals := 0 } : Room).cells ({ frames := 0, cells := 0, slots := 0, locals := 0 } : Room).slots) := by
  refine MetFree.of_bodySF (plainFor_of_name own_pn_com_example_appenddb_appenddb_VerifyResult) hisR ?_
  intro p e s m args below meth c s₁ Bd hml0 hP hK
  obtain ⟨rfl, hZ, hh⟩ := hP
  have hx := Bd.exec
  have hby := Bd.bytes
  have hlk : meth.locks = false := BodyLoose.notSynchronized Bd
  have hml : c.maxLocals = 1 := hml0
  have hown : s.vm.findClass "com/example/appenddb/appenddb/VerifyResult" = some m.cls := findClass_of_methodNamed Bd.named
  have hnm := (name_of_methodNamed Bd.named Bd.method).1
  have X0 : Stand p l e ({ frames := 0, cells := 0, slots := 0, locals := 0 } : Room) s m #[(.ref o0)] below meth c s₁ [] 0 0 := Stand.of_body Bd
  have e0 : s₁.heap = h0 := by rw [← hh, Bd.state]; rfl
  have N0 := Fr.nil n0
  show own_Go p e below (own_K s (Q_getLogEnd_7 Z z0 h0 n0) ({ frames := 0, cells := 0, slots := 0, locals := 0 } : Room).cells ({ frames := 0, cells := 0, slots := 0, locals := 0 } : Room).slots) (s₁.setTop (entryFrame m #[(.ref o0)] 1))
  rw [(by first | (simp [entryFrame, mkF, argsToLocals, Value.category]; done) | rfl : entryFrame m #[(.ref o0)] 1 = mkF m 0 #[.val (.ref o0)] [])]
  show own_Go p e below _ (s₁.setTop (mkF m 0 #[.val (.ref o0)] []))
  refine own_go (fun _ hr => XS.aloadN X0.here hx rfl (hb hby own_d_prog_9_method_10_code_0) rfl rfl hr) ?_
  show own_Go p e below _ (s₁.setTop (mkF m 1 #[.val (.ref o0)] [(.ref o0)]))
  obtain ⟨T1, X1, e1, st1⟩ := getF X0 hx hZ hown (host := "") (Or.inl (hw _ (own_m 25 rfl))) Via.refl e0 P0 (g := (mkF m 1 #[.val (.ref o0)] [(.ref o0)])) rfl rfl (hb hby own_d_prog_9_method_10_code_1)
  refine own_go st1 ?_
  show own_Go p e below _ (T1.setTop (mkF m 4 #[.val (.ref o0)] [(.long z0)]))
  exact own_retJ X1 hx hlk Bd.returns (hb hby own_d_prog_9_method_10_code_4) (by decide) (by decide) ⟨rfl, N0, e1⟩
theorem own_d_prog_9_method_11_code_0 : decode prog_9_method_11_code 0 = .ok (.aload_n 0, 1) := by decide +kernel
theorem own_d_prog_9_method_11_code_1 : decode prog_9_method_11_code 1 = .ok (.getfield 30, 3) := by decide +kernel
theorem own_d_prog_9_method_11_code_4 : decode prog_9_method_11_code 4 = .ok (.areturn, 1) := by decide +kernel
def Q_getFile_8 (Z : State) (h0 : Heap) (n0 : Nat) (v : Option Value) (h : Heap) (L : List Loc) : Prop := v = some .null ∧ Fr n0 L ∧ h = h0
set_option maxRecDepth 65536 in
set_option maxHeartbeats 40000000 in
theorem rm_getFile_8 (l : Launch) (Z : State) (a0 : Array Value) (hw : ∀ d ∈ tables_1, d.before a0 Z = true) (ws : List Jvm.Cond) (o0 : Addr) (h0 : Heap) (n0 : Nat) (Z0 : n0 ≤ h0.size) (P0 : Fld Z h0 o0 "com/example/appenddb/appenddb/VerifyResult" "file" "Ljava/lang/String;" .null) :
    MetFree l (⟨"com/example/appenddb/appenddb/VerifyResult", "getFile", "()Ljava/lang/String;"⟩ : MethodName) (head1 (Jvm.Cond.code (⟨"com/example/appenddb/appenddb/VerifyResult", "getFile", "()Ljava/lang/String;"⟩ : MethodName) prog_9_method_11_code 1 (some (.object "java/lang/String")) :: ws) ({ frames := 0, cells := 0, slots := 0, locals := 0 } : Room)) (fun aA U => aA = #[(.ref o0)] ∧ Z.Warmed39 U.vm ∧ U.heap = h0) (fun _ _ _ _ _ => True) (fun _ U o U' => ∃ v L, o = .returned v ∧ Q_getFile_8 Z h0 n0 v U'.heap L ∧ FrameEnd U o U' L ({ frames := 0, cells := 0, slots := 0, locals := 0 } : Room).cells ({ frames := 0, cells := 0, slots := 0, locals := 0 } : Room).slots) := by
  refine MetFree.of_bodySF (plainFor_of_name own_pn_com_example_appenddb_appenddb_VerifyResult) hisR ?_
  intro p e s m args below meth c s₁ Bd hml0 hP hK
  obtain ⟨rfl, hZ, hh⟩ := hP
  have hx := Bd.exec
  have hby := Bd.bytes
  have hlk : meth.locks = false := BodyLoose.notSynchronized Bd
  have hml : c.maxLocals = 1 := hml0
  have hown : s.vm.findClass "com/example/appenddb/appenddb/VerifyResult" = some m.cls := findClass_of_methodNamed Bd.named
  have hnm := (name_of_methodNamed Bd.named Bd.method).1
  have X0 : Stand p l e ({ frames := 0, cells := 0, slots := 0, locals := 0 } : Room) s m #[(.ref o0)] below meth c s₁ [] 0 0 := Stand.of_body Bd
  have e0 : s₁.heap = h0 := by rw [← hh, Bd.state]; rfl
  have N0 := Fr.nil n0
  show own_Go p e below (own_K s (Q_getFile_8 Z h0 n0) ({ frames := 0, cells := 0, slots := 0, locals := 0 } : Room).cells ({ frames := 0, cells := 0, slots := 0, locals := 0 } : Room).slots) (s₁.setTop (entryFrame m #[(.ref o0)] 1))
  rw [(by first | (simp [entryFrame, mkF, argsToLocals, Value.category]; done) | rfl : entryFrame m #[(.ref o0)] 1 = mkF m 0 #[.val (.ref o0)] [])]
  show own_Go p e below _ (s₁.setTop (mkF m 0 #[.val (.ref o0)] []))
  refine own_go (fun _ hr => XS.aloadN X0.here hx rfl (hb hby own_d_prog_9_method_11_code_0) rfl rfl hr) ?_
  show own_Go p e below _ (s₁.setTop (mkF m 1 #[.val (.ref o0)] [(.ref o0)]))
  obtain ⟨T1, X1, e1, st1⟩ := getF X0 hx hZ hown (host := "") (Or.inl (hw _ (own_m 27 rfl))) Via.refl e0 P0 (g := (mkF m 1 #[.val (.ref o0)] [(.ref o0)])) rfl rfl (hb hby own_d_prog_9_method_11_code_1)
  refine own_go st1 ?_
  show own_Go p e below _ (T1.setTop (mkF m 4 #[.val (.ref o0)] [.null]))
  exact own_retR X1 hx hlk Bd.returns rfl rfl (hb hby own_d_prog_9_method_11_code_4) (by decide) (by decide) ⟨rfl, N0, e1⟩
theorem own_pd5 : parseMethodDescriptor "()Ljava/lang/String;" = some ⟨[], some (.object "java/lang/String")⟩ := by decide +kernel
theorem own_d_prog_9_method_12_code_0 : decode prog_9_method_12_code 0 = .ok (.aload_n 0, 1) := by decide +kernel
theorem own_d_prog_9_method_12_code_1 : decode prog_9_method_12_code 1 = .ok (.getfield 34, 3) := by decide +kernel
theorem own_d_prog_9_method_12_code_4 : decode prog_9_method_12_code 4 = .ok (.lreturn, 1) := by decide +kernel
def Q_getOffset_9 (Z : State) (h0 : Heap) (n0 : Nat) (v : Option Value) (h : Heap) (L : List Loc) : Prop := v = some (.long (0 : Int64)) ∧ Fr n0 L ∧ h = h0
set_option maxRecDepth 65536 in
set_option maxHeartbeats 40000000 in
theorem rm_getOffset_9 (l : Launch) (Z : State) (a0 : Array Value) (hw : ∀ d ∈ tables_1, d.before a0 Z = true) (ws : List Jvm.Cond) (o0 : Addr) (h0 : Heap) (n0 : Nat) (Z0 : n0 ≤ h0.size) (P0 : Fld Z h0 o0 "com/example/appenddb/appenddb/VerifyResult" "offset" "J" (.long (0 : Int64))) :
    MetFree l (⟨"com/example/appenddb/appenddb/VerifyResult", "getOffset", "()J"⟩ : MethodName) (head1 (Jvm.Cond.code (⟨"com/example/appenddb/appenddb/VerifyResult", "getOffset", "()J"⟩ : MethodName) prog_9_method_12_code 1 (some .long) :: ws) ({ frames := 0, cells := 0, slots := 0, locals := 0 } : Room)) (fun aA U => aA = #[(.ref o0)] ∧ Z.Warmed39 U.vm ∧ U.heap = h0) (fun _ _ _ _ _ => True) (fun _ U o U' => ∃ v L, o = .returned v ∧ Q_getOffset_9 Z h0 n0 v U'.heap L ∧ FrameEnd U o U' L ({ frames := 0, cells := 0, slots := 0, locals := 0 } : Room).cells ({ frames := 0, cells := 0, slots := 0, locals := 0 } : Room).slots) := by
  refine MetFree.of_bodySF (plainFor_of_name own_pn_com_example_appenddb_appenddb_VerifyResult) hisR ?_
  intro p e s m args below meth c s₁ Bd hml0 hP hK
  obtain ⟨rfl, hZ, hh⟩ := hP
  have hx := Bd.exec
  have hby := Bd.bytes
  have hlk : meth.locks = false := BodyLoose.notSynchronized Bd
  have hml : c.maxLocals = 1 := hml0
  have hown : s.vm.findClass "com/example/appenddb/appenddb/VerifyResult" = some m.cls := findClass_of_methodNamed Bd.named
  have hnm := (name_of_methodNamed Bd.named Bd.method).1
  have X0 : Stand p l e ({ frames := 0, cells := 0, slots := 0, locals := 0 } : Room) s m #[(.ref o0)] below meth c s₁ [] 0 0 := Stand.of_body Bd
  have e0 : s₁.heap = h0 := by rw [← hh, Bd.state]; rfl
  have N0 := Fr.nil n0
  show own_Go p e below (own_K s (Q_getOffset_9 Z h0 n0) ({ frames := 0, cells := 0, slots := 0, locals := 0 } : Room).cells ({ frames := 0, cells := 0, slots := 0, locals := 0 } : Room).slots) (s₁.setTop (entryFrame m #[(.ref o0)] 1))
  rw [(by first | (simp [entryFrame, mkF, argsToLocals, Value.category]; done) | rfl : entryFrame m #[(.ref o0)] 1 = mkF m 0 #[.val (.ref o0)] [])]
  show own_Go p e below _ (s₁.setTop (mkF m 0 #[.val (.ref o0)] []))
  refine own_go (fun _ hr => XS.aloadN X0.here hx rfl (hb hby own_d_prog_9_method_12_code_0) rfl rfl hr) ?_
  show own_Go p e below _ (s₁.setTop (mkF m 1 #[.val (.ref o0)] [(.ref o0)]))
  obtain ⟨T1, X1, e1, st1⟩ := getF X0 hx hZ hown (host := "") (Or.inl (hw _ (own_m 29 rfl))) Via.refl e0 P0 (g := (mkF m 1 #[.val (.ref o0)] [(.ref o0)])) rfl rfl (hb hby own_d_prog_9_method_12_code_1)
  refine own_go st1 ?_
  show own_Go p e below _ (T1.setTop (mkF m 4 #[.val (.ref o0)] [(.long (0 : Int64))]))
  exact own_retJ X1 hx hlk Bd.returns (hb hby own_d_prog_9_method_12_code_4) (by decide) (by decide) ⟨rfl, N0, e1⟩
theorem own_d_prog_9_method_13_code_0 : decode prog_9_method_13_code 0 = .ok (.aload_n 0, 1) := by decide +kernel
theorem own_d_prog_9_method_13_code_1 : decode prog_9_method_13_code 1 = .ok (.getfield 37, 3) := by decide +kernel
theorem own_d_prog_9_method_13_code_4 : decode prog_9_method_13_code 4 = .ok (.areturn, 1) := by decide +kernel
def Q_getProblem_10 (Z : State) (h0 : Heap) (n0 : Nat) (v : Option Value) (h : Heap) (L : List Loc) : Prop := v = some .null ∧ Fr n0 L ∧ h = h0
set_option maxRecDepth 65536 in
set_option maxHeartbeats 40000000 in
theorem rm_getProblem_10 (l : Launch) (Z : State) (a0 : Array Value) (hw : ∀ d ∈ tables_1, d.before a0 Z = true) (ws : List Jvm.Cond) (o0 : Addr) (h0 : Heap) (n0 : Nat) (Z0 : n0 ≤ h0.size) (P0 : Fld Z h0 o0 "com/example/appenddb/appenddb/VerifyResult" "problem" "Ljava/lang/String;" .null) :
    MetFree l (⟨"com/example/appenddb/appenddb/VerifyResult", "getProblem", "()Ljava/lang/String;"⟩ : MethodName) (head1 (Jvm.Cond.code (⟨"com/example/appenddb/appenddb/VerifyResult", "getProblem", "()Ljava/lang/String;"⟩ : MethodName) prog_9_method_13_code 1 (some (.object "java/lang/String")) :: ws) ({ frames := 0, cells := 0, slots := 0, locals := 0 } : Room)) (fun aA U => aA = #[(.ref o0)] ∧ Z.Warmed39 U.vm ∧ U.heap = h0) (fun _ _ _ _ _ => True) (fun _ U o U' => ∃ v L, o = .returned v ∧ Q_getProblem_10 Z h0 n0 v U'.heap L ∧ FrameEnd U o U' L ({ frames := 0, cells := 0, slots := 0, locals := 0 } : Room).cells ({ frames := 0, cells := 0, slots := 0, locals := 0 } : Room).slots) := by
  refine MetFree.of_bodySF (plainFor_of_name own_pn_com_example_appenddb_appenddb_VerifyResult) hisR ?_
  intro p e s m args below meth c s₁ Bd hml0 hP hK
  obtain ⟨rfl, hZ, hh⟩ := hP
  have hx := Bd.exec
  have hby := Bd.bytes
  have hlk : meth.locks = false := BodyLoose.notSynchronized Bd
  have hml : c.maxLocals = 1 := hml0
  have hown : s.vm.findClass "com/example/appenddb/appenddb/VerifyResult" = some m.cls := findClass_of_methodNamed Bd.named
  have hnm := (name_of_methodNamed Bd.named Bd.method).1
  have X0 : Stand p l e ({ frames := 0, cells := 0, slots := 0, locals := 0 } : Room) s m #[(.ref o0)] below meth c s₁ [] 0 0 := Stand.of_body Bd
  have e0 : s₁.heap = h0 := by rw [← hh, Bd.state]; rfl
  have N0 := Fr.nil n0
  show own_Go p e below (own_K s (Q_getProblem_10 Z h0 n0) ({ frames := 0, cells := 0, slots := 0, locals := 0 } : Room).cells ({ frames := 0, cells := 0, slots := 0, locals := 0 } : Room).slots) (s₁.setTop (entryFrame m #[(.ref o0)] 1))
  rw [(by first | (simp [entryFrame, mkF, argsToLocals, Value.category]; done) | rfl : entryFrame m #[(.ref o0)] 1 = mkF m 0 #[.val (.ref o0)] [])]
  show own_Go p e below _ (s₁.setTop (mkF m 0 #[.val (.ref o0)] []))
  refine own_go (fun _ hr => XS.aloadN X0.here hx rfl (hb hby own_d_prog_9_method_13_code_0) rfl rfl hr) ?_
  show own_Go p e below _ (s₁.setTop (mkF m 1 #[.val (.ref o0)] [(.ref o0)]))
  obtain ⟨T1, X1, e1, st1⟩ := getF X0 hx hZ hown (host := "") (Or.inl (hw _ (own_m 31 rfl))) Via.refl e0 P0 (g := (mkF m 1 #[.val (.ref o0)] [(.ref o0)])) rfl rfl (hb hby own_d_prog_9_method_13_code_1)
  refine own_go st1 ?_
  show own_Go p e below _ (T1.setTop (mkF m 4 #[.val (.ref o0)] [.null]))
  exact own_retR X1 hx hlk Bd.returns rfl rfl (hb hby own_d_prog_9_method_13_code_4) (by decide) (by decide) ⟨rfl, N0, e1⟩
theorem own_pn_com_example_appenddb_appenddb_VerifyResultWholePinLaw : plainName "com/example/appenddb/appenddb/VerifyResultWholePinLaw" = true := by first | (simp [plainName, overriddenIn]; done) | decide +kernel
def Q_law (Z : State) (h0 : Heap) (n0 : Nat) (v : Option Value) (h : Heap) (L : List Loc) : Prop := v = some (.int 1) ∧ Fr n0 L
set_option maxRecDepth 65536 in
set_option maxHeartbeats 40000000 in
theorem rm_law (l : Launch) (Z : State) (a0 : Array Value) (hw : ∀ d ∈ tables_1, d.before a0 Z = true) (ws : List Jvm.Cond) (x0 : Int64) (x1 : Int32) (x2 : Int32) (x3 : Int64) (x4 : Int64) (r_OK : Addr) (h0 : Heap) (n0 : Nat) (Z0 : n0 ≤ h0.size) (S_OK : Sta Z h0 "com/example/appenddb/appenddb/VerifyResult$Status" "OK" "Lcom/example/appenddb/appenddb/VerifyResult$Status;" (.ref r_OK)) (E_OK : Exa Z h0 r_OK "com/example/appenddb/appenddb/VerifyResult$Status") :
    MetFree l x (head1 (Jvm.Cond.code x code maxLocals ret :: ws) room_1) (fun aA U => aA = #[(.long x0), (.int x1), (.int x2), (.long x3), (.long x4)] ∧ Z.Warmed39 U.vm ∧ U.heap = h0) (fun _ _ _ _ _ => True) (fun _ U o U' => ∃ v L, o = .returned v ∧ Q_law Z h0 n0 v U'.heap L ∧ FrameEnd U o U' L room_1.cells room_1.slots) := by
  refine MetFree.of_bodySF (plainFor_of_name own_pn_com_example_appenddb_appenddb_VerifyResultWholePinLaw) hisR ?_
  intro p e s m args below meth c s₁ Bd hml0 hP hK
  obtain ⟨rfl, hZ, hh⟩ := hP
  have hx := Bd.exec
  have hby := Bd.bytes
  have hlk : meth.locks = false := BodyLoose.notSynchronized Bd
  have hml : c.maxLocals = 9 := hml0
  have hown : s.vm.findClass "com/example/appenddb/appenddb/VerifyResultWholePinLaw" = some m.cls := findClass_of_methodNamed Bd.named
  have hnm := (name_of_methodNamed Bd.named Bd.method).1
  have X0 : Stand p l e room_1 s m #[(.long x0), (.int x1), (.int x2), (.long x3), (.long x4)] below meth c s₁ [] 0 0 := Stand.of_body Bd
  have e0 : s₁.heap = h0 := by rw [← hh, Bd.state]; rfl
  have N0 := Fr.nil n0
  show own_Go p e below (own_K s (Q_law Z h0 n0) room_1.cells room_1.slots) (s₁.setTop (entryFrame m #[(.long x0), (.int x1), (.int x2), (.long x3), (.long x4)] maxLocals))
  rw [(by first | (simp [entryFrame, mkF, argsToLocals, Value.category, maxLocals]; done) | rfl : entryFrame m #[(.long x0), (.int x1), (.int x2), (.long x3), (.long x4)] maxLocals = mkF m 0 #[.val (.long x0), .second, .val (.int x1), .val (.int x2), .val (.long x3), .second, .val (.long x4), .second, .unset] [])]
  show own_Go p e below _ (s₁.setTop (mkF m 0 #[.val (.long x0), .second, .val (.int x1), .val (.int x2), .val (.long x3), .second, .val (.long x4), .second, .unset] []))
  refine own_go (fun _ hr => XS.lloadN X0.here hx rfl (hb hby at_0) rfl (XS.iloadN X0.here hx rfl (hb hby at_1) rfl (XS.iloadN X0.here hx rfl (hb hby at_2) rfl (XS.lload X0.here hx rfl (hb hby at_3) rfl (XS.lload X0.here hx rfl (hb hby at_5) rfl hr))))) ?_
  show own_Go p e below _ (s₁.setTop (mkF m 7 #[.val (.long x0), .second, .val (.int x1), .val (.int x2), .val (.long x3), .second, .val (.long x4), .second, .unset] [(.long x4), (.long x3), (.int x2), (.int x1), (.long x0)]))
  refine own_cs X0 hx hZ hown (hw _ (own_m 0 rfl)) (hw _ (own_m 1 rfl)) (hw _ (own_m 2 rfl)) (hw _ (own_m 3 rfl)) (by decide) (rm := { frames := 2, cells := 1, slots := 9, locals := 38 }) (rm_whole_1 l Z a0 hw [] x0 x1 x2 x3 x4 r_OK h0 n0 Z0 S_OK) (by decide) (W := 0) (by decide) (by decide) (by decide) e0 (by rw [hml]; rfl) (argsL := [(.long x0), (.int x1), (.int x2), (.long x3), (.long x4)]) (lenOf own_pd1 rfl) (rest := []) rfl rfl (Nat.le_of_eq rfl) (hb hby at_7) ?_
  intro _ T1 L1 X1 hQ1
  obtain ⟨b1_0, rfl, N1q, K1, ge1_0, sz1_0, f1_0, f1_1, f1_2, f1_3, f1_4, f1_5, f1_6, f1_7, f1_8, f1_9⟩ := hQ1
  have N1 := Fr.app N0 N1q
  show own_Go p e below _ (T1.setTop (mkF m 10 #[.val (.long x0), .second, .val (.int x1), .val (.int x2), .val (.long x3), .second, .val (.long x4), .second, .unset] [(.ref b1_0)]))
  refine own_go (fun _ hr => XS.astore X1.here hx rfl (hb hby at_10) rfl rfl (l' := #[.val (.long x0), .second, .val (.int x1), .val (.int x2), .val (.long x3), .second, .val (.long x4), .second, .val (.ref b1_0)]) rfl (XS.aload X1.here hx rfl (hb hby at_12) rfl rfl hr)) ?_
  show own_Go p e below _ (T1.setTop (mkF m 14 #[.val (.long x0), .second, .val (.int x1), .val (.int x2), .val (.long x3), .second, .val (.long x4), .second, .val (.ref b1_0)] [(.ref b1_0)]))
  have Z3 := (Nat.le_trans Z0 K1.1)
  refine own_cv X1 hx hZ hown (notFace_of_selects (args := #[]) (mvT hZ (hw _ (own_m 36 rfl)))) (hw _ (own_m 33 rfl)) (hw _ (own_m 34 rfl)) (hw _ (own_m 36 rfl)) (hw _ (own_m 35 rfl)) (hw _ (own_m 2 rfl)) (hw _ (own_m 37 rfl)) (by decide) f1_0 (rm := { frames := 0, cells := 0, slots := 0, locals := 0 }) (rm_getStatus_2 l Z a0 hw [] b1_0 r_OK T1.heap n0 Z3 f1_1) (by decide) (W := 0) (by decide) (by decide) (by decide) rfl (by rw [hml]; rfl) (argsL := []) (lenOf own_pd2 rfl) (rest := []) rfl rfl (Nat.le_of_eq rfl) (hb hby at_14) ?_
  intro _ T2 L2 X2 hQ2
  obtain ⟨rfl, N2q, e2⟩ := hQ2
  have N2 := Fr.app N1 N2q
  show own_Go p e below _ (T2.setTop (mkF m 17 #[.val (.long x0), .second, .val (.int x1), .val (.int x2), .val (.long x3), .second, .val (.long x4), .second, .val (.ref b1_0)] [(.ref r_OK)]))
  have f4 := (own_sta_keep S_OK K1 all0)
  obtain ⟨T5, X5, e5, st5⟩ := getS2 X2 hx hZ hown (host := "") (Or.inl (hw _ (own_m 38 rfl))) Via.refl e2 f4 (g := (mkF m 17 #[.val (.long x0), .second, .val (.int x1), .val (.int x2), .val (.long x3), .second, .val (.long x4), .second, .val (.ref b1_0)] [(.ref r_OK)])) rfl (hb hby at_17)
  refine own_go st5 ?_
  show own_Go p e below _ (T5.setTop (mkF m 20 #[.val (.long x0), .second, .val (.int x1), .val (.int x2), .val (.long x3), .second, .val (.long x4), .second, .val (.ref b1_0)] [(.ref r_OK), (.ref r_OK)]))
  refine own_go (fun _ hr => Jvm.RoadKit.acmp X5 hx rfl rfl rfl (pc0 := 20) (pc' := 25) (same := true) rfl (hb hby at_20) rfl (decide_eq_true rfl) (by decide) (by decide) hr) ?_
  show own_Go p e below _ (T5.setTop (mkF m 25 #[.val (.long x0), .second, .val (.int x1), .val (.int x2), .val (.long x3), .second, .val (.long x4), .second, .val (.ref b1_0)] []))
  refine own_go (fun _ hr => XS.aload X5.here hx rfl (hb hby at_25) rfl rfl hr) ?_
  show own_Go p e below _ (T5.setTop (mkF m 27 #[.val (.long x0), .second, .val (.int x1), .val (.int x2), .val (.long x3), .second, .val (.long x4), .second, .val (.ref b1_0)] [(.ref b1_0)]))
  refine own_cv X5 hx hZ hown (notFace_of_selects (args := #[]) (mvT hZ (hw _ (own_m 42 rfl)))) (hw _ (own_m 39 rfl)) (hw _ (own_m 40 rfl)) (hw _ (own_m 42 rfl)) (hw _ (own_m 41 rfl)) (hw _ (own_m 2 rfl)) (hw _ (own_m 43 rfl)) (by decide) f1_0 (rm := { frames := 0, cells := 0, slots := 0, locals := 0 }) (rm_getRecords_3 l Z a0 hw [] b1_0 x0 T1.heap n0 Z3 f1_2) (by decide) (W := 0) (by decide) (by decide) (by decide) e5 (by rw [hml]; rfl) (argsL := []) (lenOf own_pd3 rfl) (rest := []) rfl rfl (Nat.le_of_eq rfl) (hb hby at_27) ?_
  intro _ T6 L6 X6 hQ6
  obtain ⟨rfl, N6q, e6⟩ := hQ6
  have N6 := Fr.app N2 N6q
  show own_Go p e below _ (T6.setTop (mkF m 30 #[.val (.long x0), .second, .val (.int x1), .val (.int x2), .val (.long x3), .second, .val (.long x4), .second, .val (.ref b1_0)] [(.long x0)]))
  refine own_go (fun _ hr => XS.lloadN X6.here hx rfl (hb hby at_30) rfl (XS.lcmp X6.here hx rfl (hb hby at_31) rfl hr)) ?_
  show own_Go p e below _ (T6.setTop (mkF m 32 #[.val (.long x0), .second, .val (.int x1), .val (.int x2), .val (.long x3), .second, .val (.long x4), .second, .val (.ref b1_0)] [(.int (lcmpW x0 x0))]))
  have c7 : (lcmpW x0 x0) = (0 : Int32) := by
    have q0 := rng64 x0
    have q1 := c_lcmp x0 x0
    simp only [true_implies, Int32.lt_iff_toInt_lt, ← Int32.toInt_inj, Int32.reduceToInt, Int64.lt_iff_toInt_lt, ← Int64.toInt_inj, Int64.reduceToInt] at q0 q1 ⊢
    omega
  refine own_go (fun _ hr => XS.ifYes X6.here hx rfl (pc0 := 32) (pc' := 37) rfl (hb hby at_32) rfl ((if0 _ _).trans (teq c7).1) (by decide) (by decide) hr) ?_
  show own_Go p e below _ (T6.setTop (mkF m 37 #[.val (.long x0), .second, .val (.int x1), .val (.int x2), .val (.long x3), .second, .val (.long x4), .second, .val (.ref b1_0)] []))
  refine own_go (fun _ hr => XS.aload X6.here hx rfl (hb hby at_37) rfl rfl hr) ?_
  show own_Go p e below _ (T6.setTop (mkF m 39 #[.val (.long x0), .second, .val (.int x1), .val (.int x2), .val (.long x3), .second, .val (.long x4), .second, .val (.ref b1_0)] [(.ref b1_0)]))
  refine own_cv X6 hx hZ hown (notFace_of_selects (args := #[]) (mvT hZ (hw _ (own_m 47 rfl)))) (hw _ (own_m 44 rfl)) (hw _ (own_m 45 rfl)) (hw _ (own_m 47 rfl)) (hw _ (own_m 46 rfl)) (hw _ (own_m 2 rfl)) (hw _ (own_m 48 rfl)) (by decide) f1_0 (rm := { frames := 0, cells := 0, slots := 0, locals := 0 }) (rm_getSegments_4 l Z a0 hw [] b1_0 x1 T1.heap n0 Z3 f1_3) (by decide) (W := 0) (by decide) (by decide) (by decide) e6 (by rw [hml]; rfl) (argsL := []) (lenOf own_pd4 rfl) (rest := []) rfl rfl (Nat.le_of_eq rfl) (hb hby at_39) ?_
  intro _ T8 L8 X8 hQ8
  obtain ⟨rfl, N8q, e8⟩ := hQ8
  have N8 := Fr.app N6 N8q
  show own_Go p e below _ (T8.setTop (mkF m 42 #[.val (.long x0), .second, .val (.int x1), .val (.int x2), .val (.long x3), .second, .val (.long x4), .second, .val (.ref b1_0)] [(.int x1)]))
  refine own_go (fun _ hr => XS.iloadN X8.here hx rfl (hb hby at_42) rfl (XS.icmpYes X8.here hx rfl (pc0 := 43) (pc' := 48) rfl (hb hby at_43) rfl (teq rfl).1 (by decide) (by decide) (XS.aload X8.here hx rfl (hb hby at_48) rfl rfl hr))) ?_
  show own_Go p e below _ (T8.setTop (mkF m 50 #[.val (.long x0), .second, .val (.int x1), .val (.int x2), .val (.long x3), .second, .val (.long x4), .second, .val (.ref b1_0)] [(.ref b1_0)]))
  refine own_cv X8 hx hZ hown (notFace_of_selects (args := #[]) (mvT hZ (hw _ (own_m 52 rfl)))) (hw _ (own_m 49 rfl)) (hw _ (own_m 50 rfl)) (hw _ (own_m 52 rfl)) (hw _ (own_m 51 rfl)) (hw _ (own_m 2 rfl)) (hw _ (own_m 53 rfl)) (by decide) f1_0 (rm := { frames := 0, cells := 0, slots := 0, locals := 0 }) (rm_getQueues_5 l Z a0 hw [] b1_0 x2 T1.heap n0 Z3 f1_4) (by decide) (W := 0) (by decide) (by decide) (by decide) e8 (by rw [hml]; rfl) (argsL := []) (lenOf own_pd4 rfl) (rest := []) rfl rfl (Nat.le_of_eq rfl) (hb hby at_50) ?_
  intro _ T9 L9 X9 hQ9
  obtain ⟨rfl, N9q, e9⟩ := hQ9
  have N9 := Fr.app N8 N9q
  show own_Go p e below _ (T9.setTop (mkF m 53 #[.val (.long x0), .second, .val (.int x1), .val (.int x2), .val (.long x3), .second, .val (.long x4), .second, .val (.ref b1_0)] [(.int x2)]))
  refine own_go (fun _ hr => XS.iloadN X9.here hx rfl (hb hby at_53) rfl (XS.icmpYes X9.here hx rfl (pc0 := 54) (pc' := 59) rfl (hb hby at_54) rfl (teq rfl).1 (by decide) (by decide) (XS.aload X9.here hx rfl (hb hby at_59) rfl rfl hr))) ?_
  show own_Go p e below _ (T9.setTop (mkF m 61 #[.val (.long x0), .second, .val (.int x1), .val (.int x2), .val (.long x3), .second, .val (.long x4), .second, .val (.ref b1_0)] [(.ref b1_0)]))
  refine own_cv X9 hx hZ hown (notFace_of_selects (args := #[]) (mvT hZ (hw _ (own_m 57 rfl)))) (hw _ (own_m 54 rfl)) (hw _ (own_m 55 rfl)) (hw _ (own_m 57 rfl)) (hw _ (own_m 56 rfl)) (hw _ (own_m 2 rfl)) (hw _ (own_m 58 rfl)) (by decide) f1_0 (rm := { frames := 0, cells := 0, slots := 0, locals := 0 }) (rm_getIndexEntries_6 l Z a0 hw [] b1_0 x3 T1.heap n0 Z3 f1_5) (by decide) (W := 0) (by decide) (by decide) (by decide) e9 (by rw [hml]; rfl) (argsL := []) (lenOf own_pd3 rfl) (rest := []) rfl rfl (Nat.le_of_eq rfl) (hb hby at_61) ?_
  intro _ T10 L10 X10 hQ10
  obtain ⟨rfl, N10q, e10⟩ := hQ10
  have N10 := Fr.app N9 N10q
  show own_Go p e below _ (T10.setTop (mkF m 64 #[.val (.long x0), .second, .val (.int x1), .val (.int x2), .val (.long x3), .second, .val (.long x4), .second, .val (.ref b1_0)] [(.long x3)]))
  refine own_go (fun _ hr => XS.lload X10.here hx rfl (hb hby at_64) rfl (XS.lcmp X10.here hx rfl (hb hby at_66) rfl hr)) ?_
  show own_Go p e below _ (T10.setTop (mkF m 67 #[.val (.long x0), .second, .val (.int x1), .val (.int x2), .val (.long x3), .second, .val (.long x4), .second, .val (.ref b1_0)] [(.int (lcmpW x3 x3))]))
  have c11 : (lcmpW x3 x3) = (0 : Int32) := by
    have q0 := rng64 x3
    have q1 := c_lcmp x3 x3
    simp only [true_implies, Int32.lt_iff_toInt_lt, ← Int32.toInt_inj, Int32.reduceToInt, Int64.lt_iff_toInt_lt, ← Int64.toInt_inj, Int64.reduceToInt] at q0 q1 ⊢
    omega
  refine own_go (fun _ hr => XS.ifYes X10.here hx rfl (pc0 := 67) (pc' := 72) rfl (hb hby at_67) rfl ((if0 _ _).trans (teq c11).1) (by decide) (by decide) hr) ?_
  show own_Go p e below _ (T10.setTop (mkF m 72 #[.val (.long x0), .second, .val (.int x1), .val (.int x2), .val (.long x3), .second, .val (.long x4), .second, .val (.ref b1_0)] []))
  refine own_go (fun _ hr => XS.aload X10.here hx rfl (hb hby at_72) rfl rfl hr) ?_
  show own_Go p e below _ (T10.setTop (mkF m 74 #[.val (.long x0), .second, .val (.int x1), .val (.int x2), .val (.long x3), .second, .val (.long x4), .second, .val (.ref b1_0)] [(.ref b1_0)]))
  refine own_cv X10 hx hZ hown (notFace_of_selects (args := #[]) (mvT hZ (hw _ (own_m 62 rfl)))) (hw _ (own_m 59 rfl)) (hw _ (own_m 60 rfl)) (hw _ (own_m 62 rfl)) (hw _ (own_m 61 rfl)) (hw _ (own_m 2 rfl)) (hw _ (own_m 63 rfl)) (by decide) f1_0 (rm := { frames := 0, cells := 0, slots := 0, locals := 0 }) (rm_getLogEnd_7 l Z a0 hw [] b1_0 x4 T1.heap n0 Z3 f1_6) (by decide) (W := 0) (by decide) (by decide) (by decide) e10 (by rw [hml]; rfl) (argsL := []) (lenOf own_pd3 rfl) (rest := []) rfl rfl (Nat.le_of_eq rfl) (hb hby at_74) ?_
  intro _ T12 L12 X12 hQ12
  obtain ⟨rfl, N12q, e12⟩ := hQ12
  have N12 := Fr.app N10 N12q
  show own_Go p e below _ (T12.setTop (mkF m 77 #[.val (.long x0), .second, .val (.int x1), .val (.int x2), .val (.long x3), .second, .val (.long x4), .second, .val (.ref b1_0)] [(.long x4)]))
  refine own_go (fun _ hr => XS.lload X12.here hx rfl (hb hby at_77) rfl (XS.lcmp X12.here hx rfl (hb hby at_79) rfl hr)) ?_
  show own_Go p e below _ (T12.setTop (mkF m 80 #[.val (.long x0), .second, .val (.int x1), .val (.int x2), .val (.long x3), .second, .val (.long x4), .second, .val (.ref b1_0)] [(.int (lcmpW x4 x4))]))
  have c13 : (lcmpW x4 x4) = (0 : Int32) := by
    have q0 := rng64 x4
    have q1 := c_lcmp x4 x4
    simp only [true_implies, Int32.lt_iff_toInt_lt, ← Int32.toInt_inj, Int32.reduceToInt, Int64.lt_iff_toInt_lt, ← Int64.toInt_inj, Int64.reduceToInt] at q0 q1 ⊢
    omega
  refine own_go (fun _ hr => XS.ifYes X12.here hx rfl (pc0 := 80) (pc' := 85) rfl (hb hby at_80) rfl ((if0 _ _).trans (teq c13).1) (by decide) (by decide) hr) ?_
  show own_Go p e below _ (T12.setTop (mkF m 85 #[.val (.long x0), .second, .val (.int x1), .val (.int x2), .val (.long x3), .second, .val (.long x4), .second, .val (.ref b1_0)] []))
  refine own_go (fun _ hr => XS.aload X12.here hx rfl (hb hby at_85) rfl rfl hr) ?_
  show own_Go p e below _ (T12.setTop (mkF m 87 #[.val (.long x0), .second, .val (.int x1), .val (.int x2), .val (.long x3), .second, .val (.long x4), .second, .val (.ref b1_0)] [(.ref b1_0)]))
  refine own_cv X12 hx hZ hown (notFace_of_selects (args := #[]) (mvT hZ (hw _ (own_m 67 rfl)))) (hw _ (own_m 64 rfl)) (hw _ (own_m 65 rfl)) (hw _ (own_m 67 rfl)) (hw _ (own_m 66 rfl)) (hw _ (own_m 2 rfl)) (hw _ (own_m 68 rfl)) (by decide) f1_0 (rm := { frames := 0, cells := 0, slots := 0, locals := 0 }) (rm_getFile_8 l Z a0 hw [] b1_0 T1.heap n0 Z3 f1_7) (by decide) (W := 0) (by decide) (by decide) (by decide) e12 (by rw [hml]; rfl) (argsL := []) (lenOf own_pd5 rfl) (rest := []) rfl rfl (Nat.le_of_eq rfl) (hb hby at_87) ?_
  intro _ T14 L14 X14 hQ14
  obtain ⟨rfl, N14q, e14⟩ := hQ14
  have N14 := Fr.app N12 N14q
  show own_Go p e below _ (T14.setTop (mkF m 90 #[.val (.long x0), .second, .val (.int x1), .val (.int x2), .val (.long x3), .second, .val (.long x4), .second, .val (.ref b1_0)] [.null]))
  refine own_go (fun _ hr => XS.ifnullYes X14.here hx rfl (pc0 := 90) (pc' := 95) rfl (hb hby at_90) rfl (by decide) (by decide) hr) ?_
  show own_Go p e below _ (T14.setTop (mkF m 95 #[.val (.long x0), .second, .val (.int x1), .val (.int x2), .val (.long x3), .second, .val (.long x4), .second, .val (.ref b1_0)] []))
  refine own_go (fun _ hr => XS.aload X14.here hx rfl (hb hby at_95) rfl rfl hr) ?_
  show own_Go p e below _ (T14.setTop (mkF m 97 #[.val (.long x0), .second, .val (.int x1), .val (.int x2), .val (.long x3), .second, .val (.long x4), .second, .val (.ref b1_0)] [(.ref b1_0)]))
  refine own_cv X14 hx hZ hown (notFace_of_selects (args := #[]) (mvT hZ (hw _ (own_m 72 rfl)))) (hw _ (own_m 69 rfl)) (hw _ (own_m 70 rfl)) (hw _ (own_m 72 rfl)) (hw _ (own_m 71 rfl)) (hw _ (own_m 2 rfl)) (hw _ (own_m 73 rfl)) (by decide) f1_0 (rm := { frames := 0, cells := 0, slots := 0, locals := 0 }) (rm_getOffset_9 l Z a0 hw [] b1_0 T1.heap n0 Z3 f1_8) (by decide) (W := 0) (by decide) (by decide) (by decide) e14 (by rw [hml]; rfl) (argsL := []) (lenOf own_pd3 rfl) (rest := []) rfl rfl (Nat.le_of_eq rfl) (hb hby at_97) ?_
  intro _ T15 L15 X15 hQ15
  obtain ⟨rfl, N15q, e15⟩ := hQ15
  have N15 := Fr.app N14 N15q
  show own_Go p e below _ (T15.setTop (mkF m 100 #[.val (.long x0), .second, .val (.int x1), .val (.int x2), .val (.long x3), .second, .val (.long x4), .second, .val (.ref b1_0)] [(.long (0 : Int64))]))
  refine own_go (fun _ hr => XS.lconst X15.here hx rfl (hb hby at_100) (XS.lcmp X15.here hx rfl (hb hby at_101) rfl (XS.ifYes X15.here hx rfl (pc0 := 102) (pc' := 107) rfl (hb hby at_102) rfl ((if0 _ _).trans (teq (by decide)).1) (by decide) (by decide) (XS.aload X15.here hx rfl (hb hby at_107) rfl rfl hr)))) ?_
  show own_Go p e below _ (T15.setTop (mkF m 109 #[.val (.long x0), .second, .val (.int x1), .val (.int x2), .val (.long x3), .second, .val (.long x4), .second, .val (.ref b1_0)] [(.ref b1_0)]))
  refine own_cv X15 hx hZ hown (notFace_of_selects (args := #[]) (mvT hZ (hw _ (own_m 77 rfl)))) (hw _ (own_m 74 rfl)) (hw _ (own_m 75 rfl)) (hw _ (own_m 77 rfl)) (hw _ (own_m 76 rfl)) (hw _ (own_m 2 rfl)) (hw _ (own_m 78 rfl)) (by decide) f1_0 (rm := { frames := 0, cells := 0, slots := 0, locals := 0 }) (rm_getProblem_10 l Z a0 hw [] b1_0 T1.heap n0 Z3 f1_9) (by decide) (W := 0) (by decide) (by decide) (by decide) e15 (by rw [hml]; rfl) (argsL := []) (lenOf own_pd5 rfl) (rest := []) rfl rfl (Nat.le_of_eq rfl) (hb hby at_109) ?_
  intro _ T16 L16 X16 hQ16
  obtain ⟨rfl, N16q, e16⟩ := hQ16
  have N16 := Fr.app N15 N16q
  show own_Go p e below _ (T16.setTop (mkF m 112 #[.val (.long x0), .second, .val (.int x1), .val (.int x2), .val (.long x3), .second, .val (.long x4), .second, .val (.ref b1_0)] [.null]))
  refine own_go (fun _ hr => XS.ifnonnullNo X16.here hx rfl (hb hby at_112) rfl hr) ?_
  show own_Go p e below _ (T16.setTop (mkF m 115 #[.val (.long x0), .second, .val (.int x1), .val (.int x2), .val (.long x3), .second, .val (.long x4), .second, .val (.ref b1_0)] []))
  refine own_go (fun _ hr => XS.iconst X16.here hx rfl (hb hby at_115) (XS.goto X16.here hx rfl (pc0 := 116) (pc' := 120) rfl (hb hby at_116) (by decide) (by decide) hr)) ?_
  show own_Go p e below _ (T16.setTop (mkF m 120 #[.val (.long x0), .second, .val (.int x1), .val (.int x2), .val (.long x3), .second, .val (.long x4), .second, .val (.ref b1_0)] [(.int (1 : Int32))]))
  exact own_retN X16 hx hlk Bd.returns (t := .boolean) (by simp) (hb hby at_120) (by decide) (by decide) ⟨rfl, N16⟩
set_option maxRecDepth 65536 in
set_option maxHeartbeats 40000000 in
theorem comes_1 {Post : Tables → Env → Array Value → State → Outcome → State → Prop} (hpost : ∀ tb e args s v u, (limb_1_1.after args s (.returned v) u = true ∧ limb_1_2.after args s (.returned v) u = true ∧ True) → FrameEnd s (.returned v) u (Jvm.fieldLocs frame_1_writes args s ++ Jvm.arrayLocs frame_1_arrays args s ++ Jvm.staticLocs frame_1_statics s) 16 128 → Post tb e args s (.returned v) u) :
    ArmFor flags0 classFile x code maxLocals ret World_1 tables_1 room_1 Calls_1 rest_1 Pre_1 Post := by
  intro l hfl _ _ p e ha hc hk s m args below hf hA hF happ hP
  obtain ⟨hcalls, hrest, hpre⟩ := hP
  obtain ⟨-, -, -, hnamed, -, -, -, hat⟩ := (Spec.applies_iff hf).mp happ
  obtain ⟨hg, hn⟩ := and_e (Cond.before_iff.mp (show (Jvm.Cond.and given_1 narrow_1).before args s = true from hpre))
  obtain ⟨g1, g2⟩ := and_e hg
  obtain ⟨g3, g4⟩ := and_e g2
  obtain ⟨g5, g6⟩ := and_e g4
  obtain ⟨g7, g8⟩ := and_e g6
  obtain ⟨g9, g10⟩ := and_e g8
  obtain ⟨w0, w1, w2, w3, w4, rfl⟩ : ∃ w0 w1 w2 w3 w4 : Value, args = #[w0, w1, w2, w3, w4] := by
    have hs : args.size = 5 := by simpa [Cond.value, given_1] using g1
    obtain ⟨L⟩ := args
    match L, hs with
    | [w0, w1, w2, w3, w4], _ => exact ⟨w0, w1, w2, w3, w4, rfl⟩
  have hw := fun d (hd : d ∈ tables_1) => atoms_spec (ws := Jvm.Cond.code x code maxLocals ret :: tables_1) hat d (List.mem_cons_of_mem _ hd)
  have hfit : Fit s := fun {y c} hc i hi => by
    obtain ⟨ha, rfl⟩ := Array.getElem?_eq_some_iff.mp hc
    have q := List.all_eq_true.mp ((Array.all_eq_true_iff_forall_mem.mp hF) _ (Array.getElem_mem ha)) i (List.mem_range.mpr hi)
    simpa [Array.getElem?_eq_getElem hi] using q
  obtain ⟨i0, ei0⟩ := isL_v g3
  obtain rfl : w0 = (.long i0) := Option.some.inj ei0
  obtain ⟨i1, ei1⟩ := is_v g5
  obtain rfl : w1 = (.int i1) := Option.some.inj ei1
  obtain ⟨i2, ei2⟩ := is_v g7
  obtain rfl : w2 = (.int i2) := Option.some.inj ei2
  obtain ⟨i3, ei3⟩ := isL_v g9
  obtain rfl : w3 = (.long i3) := Option.some.inj ei3
  obtain ⟨i4, ei4⟩ := isL_v g10
  obtain rfl : w4 = (.long i4) := Option.some.inj ei4
  obtain ⟨r_OK, er_OK⟩ := exa_v hn
  have S_OK := Sta.start er_OK (Or.inr ⟨(hw _ (own_m 7 rfl)), (hw _ (own_m 8 rfl))⟩)
  have E_OK := Exa.start er_OK hn
  obtain ⟨n, o, h1, h2, h3, _, L, rfl, ⟨rfl, N⟩, hq⟩ := rm_law l s _ hw tables_1 i0 i1 i2 i3 i4 r_OK s.heap s.heap.size (Nat.le_refl _) S_OK E_OK p e ha hc hk s m _ below hf ((Spec.applies_iff_loose hf).mp happ).1 ⟨rfl, State.Warmed39.refl s, rfl⟩ trivial
  refine ⟨n, _, h1, h2, h3, hpost _ _ _ _ _ _ ⟨Cond.after_iff.mpr rfl, Cond.after_iff.mpr (eq_i res_at (Term.int_eval (1)) rfl), trivial⟩ ⟨hq.1, hq.2.1, (hq.2.2.sift fun y hy => Or.inr (N y hy)).mono (by decide) (by decide)⟩⟩
theorem main_1_1 : Claimed_1_1 := comes_1 fun _ _ _ _ _ _ h hF => ⟨h.1, hF⟩
theorem main_1_2 : Claimed_1_2 := comes_1 fun _ _ _ _ _ _ h hF => ⟨h.2.1, hF⟩
end Jvm.Pilot.@@N@@
namespace Jvm.Pilot.@@N@@
open Jvm Jvm.ClassFile Sem Op Lib Jvm.Free Jvm.Stand Jvm.Pilot.@@N@@.Jvm.D
/-! MADE BY PROGRAM (witnessworld.py) out of the Statement's table words and the real class files: 13 classes; the members and pool entries that the words name. The judged class is class 1, her method 1. -/
namespace start1
open Jvm.ClassFile
def u (s : String) : CpInfo := .utf8 (stringToUtf16 s)
/-- a pool by its gaps: so many unusable entries, then the entry; so many at the end -/
def gap : Nat → List CpInfo → List CpInfo
  | 0, r => r
  | n + 1, r => .unusable :: gap n r
def poolList (es : List (Nat × CpInfo)) (last : Nat) : List CpInfo := es.foldr (fun e r => gap e.1 (e.2 :: r)) (gap last [])
def pool (es : List (Nat × CpInfo)) (last : Nat) : Array CpInfo := ⟨poolList es last⟩
def fileOf (pool : Array CpInfo) (this : Nat) (attrs : Array Attribute := #[]) (ms : Array MethodInfo := #[]) (fl : Nat := 33) (sup : Nat := 0) (ifs : Array Nat := #[]) (fds : Array FieldInfo := #[]) : ClassFile where
  minorVersion := 0
  majorVersion := 65
  constantPool := pool
  accessFlags := fl
  thisClass := this
  superClass := sup
  interfaces := ifs
  fields := fds
  methods := ms
  attributes := attrs
def plain (name : String) (sup : Option ClassId) : Class where
  name := name
  kind := .ordinary
  loader := none
  accessFlags := 33
  super := sup
  interfaces := #[]
  cf := none
  fields := #[]
  methods := #[]
  instanceTypes := #[]
  staticTypes := #[]
  resolved := #[]
  callSites := []
  init := .initialized
  statics := none
  mirror := none

def pool0 : Array CpInfo := pool [(5, u "<init>"), (0, u "()V"), (1, .class_ 10), (1, u "java/lang/Object")] 113

def k0c0 : Code := { maxStack := 0, maxLocals := 1, code := object_method_1_code, exceptionTable := #[], attributes := #[] }
def k0m0 : Method := { name := "<init>", desc := "()V", sig := { parameters := [], returnType := none }, accessFlags := 1, code := some k0c0 }
/-- java/lang/Object -/
def k0 : Class := { plain "java/lang/Object" none with
  accessFlags := 33
  interfaces := #[]
  cf := some (fileOf pool0 8 #[] #[{ accessFlags := 1, nameIndex := 5, descriptorIndex := 6, attributes := #[] }] 33 0 #[] #[])
  fields := #[]
  methods := #[k0m0]
  instanceTypes := #[]
  staticTypes := #[]
  resolved := Array.replicate 124 none
  statics := none }

def pool1 : Array CpInfo := pool [(2, .class_ 4), (1, u "java/lang/Object"), (0, u "<init>"), (0, u "()V"), (0, .methodref 8 9), (0, .class_ 10), (0, .nameAndType 11 12), (0, u "com/example/appenddb/appenddb/VerifyResult"), (0, u "whole"), (0, u "(JIIJJ)Lcom/example/appenddb/appenddb/VerifyResult;"), (0, .methodref 8 14), (0, .nameAndType 15 16), (0, u "getStatus"), (0, u "()Lcom/example/appenddb/appenddb/VerifyResult$Status;"), (0, .fieldref 18 19), (0, .class_ 20), (0, .nameAndType 21 22), (0, u "com/example/appenddb/appenddb/VerifyResult$Status"), (0, u "OK"), (0, u "Lcom/example/appenddb/appenddb/VerifyResult$Status;"), (0, .methodref 8 24), (0, .nameAndType 25 26), (0, u "getRecords"), (0, u "()J"), (0, .methodref 8 28), (0, .nameAndType 29 30), (0, u "getSegments"), (0, u "()I"), (0, .methodref 8 32), (0, .nameAndType 33 30), (0, u "getQueues"), (0, .methodref 8 35), (0, .nameAndType 36 26), (0, u "getIndexEntries"), (0, .methodref 8 38), (0, .nameAndType 39 26), (0, u "getLogEnd"), (0, .methodref 8 41), (0, .nameAndType 42 43), (0, u "getFile"), (0, u "()Ljava/lang/String;"), (0, .methodref 8 45), (0, .nameAndType 46 26), (0, u "getOffset"), (0, .methodref 8 48), (0, .nameAndType 49 43), (0, u "getProblem"), (0, .class_ 51), (0, u "com/example/appenddb/appenddb/VerifyResultWholePinLaw"), (2, u "law"), (0, u "(JIIJJ)Z")] 5

def k1m0 : Method := { name := "<init>", desc := "()V", sig := { parameters := [], returnType := none }, accessFlags := 1, code := none }
def k1c1 : Code := { maxStack := 8, maxLocals := 9, code := code, exceptionTable := #[], attributes := #[] }
def k1m1 : Method := { name := "law", desc := "(JIIJJ)Z", sig := { parameters := [.long, .int, .int, .long, .long], returnType := some .boolean }, accessFlags := 9, code := some k1c1 }
/-- com/example/appenddb/appenddb/VerifyResultWholePinLaw -/
def k1 : Class := { plain "com/example/appenddb/appenddb/VerifyResultWholePinLaw" (some 0) with
  accessFlags := 49
  interfaces := #[]
  cf := some (fileOf pool1 50 #[] #[{ accessFlags := 1, nameIndex := 5, descriptorIndex := 6, attributes := #[] }, { accessFlags := 9, nameIndex := 54, descriptorIndex := 55, attributes := #[] }] 49 2 #[] #[])
  fields := #[]
  methods := #[k1m0, k1m1]
  instanceTypes := #[]
  staticTypes := #[]
  resolved := Array.replicate 61 none
  statics := none }

def pool2 : Array CpInfo := pool [(1, .methodref 2 3), (0, .class_ 4), (0, .nameAndType 5 6), (0, u "java/lang/Object"), (0, u "<init>"), (0, u "()V"), (0, .fieldref 8 9), (0, .class_ 10), (0, .nameAndType 11 12), (0, u "com/example/appenddb/appenddb/VerifyResult"), (0, u "status"), (0, u "Lcom/example/appenddb/appenddb/VerifyResult$Status;"), (0, .fieldref 8 14), (0, .nameAndType 15 16), (0, u "records"), (0, u "J"), (0, .fieldref 8 18), (0, .nameAndType 19 20), (0, u "segments"), (0, u "I"), (0, .fieldref 8 22), (0, .nameAndType 23 20), (0, u "queues"), (0, .fieldref 8 25), (0, .nameAndType 26 16), (0, u "indexEntries"), (0, .fieldref 8 28), (0, .nameAndType 29 16), (0, u "logEnd"), (0, .fieldref 8 31), (0, .nameAndType 32 33), (0, u "file"), (0, u "Ljava/lang/String;"), (0, .fieldref 8 35), (0, .nameAndType 36 16), (0, u "offset"), (0, .fieldref 8 38), (0, .nameAndType 39 33), (0, u "problem"), (0, .fieldref 41 42), (0, .class_ 43), (0, .nameAndType 44 12), (0, u "com/example/appenddb/appenddb/VerifyResult$Status"), (0, u "OK"), (0, .methodref 8 46), (0, .nameAndType 5 47), (0, u "(Lcom/example/appenddb/appenddb/VerifyResult$Status;JIIJJLjava/lang/String;JLjava/lang/String;)V"), (9, u "()I"), (18, u "whole"), (0, u "(JIIJJ)Lcom/example/appenddb/appenddb/VerifyResult;"), (4, u "getStatus"), (0, u "()Lcom/example/appenddb/appenddb/VerifyResult$Status;"), (0, u "getRecords"), (0, u "()J"), (0, u "getSegments"), (0, u "getQueues"), (0, u "getIndexEntries"), (0, u "getLogEnd"), (0, u "getFile"), (0, u "()Ljava/lang/String;"), (0, u "getOffset"), (0, u "getProblem")] 25

def k2c0 : Code := { maxStack := 3, maxLocals := 14, code := prog_9_method_1_code, exceptionTable := #[], attributes := #[] }
def k2m0 : Method := { name := "<init>", desc := "(Lcom/example/appenddb/appenddb/VerifyResult$Status;JIIJJLjava/lang/String;JLjava/lang/String;)V", sig := { parameters := [(.object "com/example/appenddb/appenddb/VerifyResult$Status"), .long, .int, .int, .long, .long, (.object "java/lang/String"), .long, (.object "java/lang/String")], returnType := none }, accessFlags := 2, code := some k2c0 }
def k2c1 : Code := { maxStack := 15, maxLocals := 8, code := prog_9_method_2_code, exceptionTable := #[], attributes := #[] }
def k2m1 : Method := { name := "whole", desc := "(JIIJJ)Lcom/example/appenddb/appenddb/VerifyResult;", sig := { parameters := [.long, .int, .int, .long, .long], returnType := some (.object "com/example/appenddb/appenddb/VerifyResult") }, accessFlags := 8, code := some k2c1 }
def k2c2 : Code := { maxStack := 1, maxLocals := 1, code := prog_9_method_5_code, exceptionTable := #[], attributes := #[] }
def k2m2 : Method := { name := "getStatus", desc := "()Lcom/example/appenddb/appenddb/VerifyResult$Status;", sig := { parameters := [], returnType := some (.object "com/example/appenddb/appenddb/VerifyResult$Status") }, accessFlags := 1, code := some k2c2 }
def k2c3 : Code := { maxStack := 2, maxLocals := 1, code := prog_9_method_6_code, exceptionTable := #[], attributes := #[] }
def k2m3 : Method := { name := "getRecords", desc := "()J", sig := { parameters := [], returnType := some .long }, accessFlags := 1, code := some k2c3 }
def k2c4 : Code := { maxStack := 1, maxLocals := 1, code := prog_9_method_7_code, exceptionTable := #[], attributes := #[] }
def k2m4 : Method := { name := "getSegments", desc := "()I", sig := { parameters := [], returnType := some .int }, accessFlags := 1, code := some k2c4 }
def k2c5 : Code := { maxStack := 1, maxLocals := 1, code := prog_9_method_8_code, exceptionTable := #[], attributes := #[] }
def k2m5 : Method := { name := "getQueues", desc := "()I", sig := { parameters := [], returnType := some .int }, accessFlags := 1, code := some k2c5 }
def k2c6 : Code := { maxStack := 2, maxLocals := 1, code := prog_9_method_9_code, exceptionTable := #[], attributes := #[] }
def k2m6 : Method := { name := "getIndexEntries", desc := "()J", sig := { parameters := [], returnType := some .long }, accessFlags := 1, code := some k2c6 }
def k2c7 : Code := { maxStack := 2, maxLocals := 1, code := prog_9_method_10_code, exceptionTable := #[], attributes := #[] }
def k2m7 : Method := { name := "getLogEnd", desc := "()J", sig := { parameters := [], returnType := some .long }, accessFlags := 1, code := some k2c7 }
def k2c8 : Code := { maxStack := 1, maxLocals := 1, code := prog_9_method_11_code, exceptionTable := #[], attributes := #[] }
def k2m8 : Method := { name := "getFile", desc := "()Ljava/lang/String;", sig := { parameters := [], returnType := some (.object "java/lang/String") }, accessFlags := 1, code := some k2c8 }
def k2c9 : Code := { maxStack := 2, maxLocals := 1, code := prog_9_method_12_code, exceptionTable := #[], attributes := #[] }
def k2m9 : Method := { name := "getOffset", desc := "()J", sig := { parameters := [], returnType := some .long }, accessFlags := 1, code := some k2c9 }
def k2c10 : Code := { maxStack := 1, maxLocals := 1, code := prog_9_method_13_code, exceptionTable := #[], attributes := #[] }
def k2m10 : Method := { name := "getProblem", desc := "()Ljava/lang/String;", sig := { parameters := [], returnType := some (.object "java/lang/String") }, accessFlags := 1, code := some k2c10 }
/-- com/example/appenddb/appenddb/VerifyResult -/
def k2 : Class := { plain "com/example/appenddb/appenddb/VerifyResult" (some 0) with
  accessFlags := 49
  interfaces := #[]
  cf := some (fileOf pool2 8 #[.nestMembers #[41]] #[{ accessFlags := 2, nameIndex := 5, descriptorIndex := 47, attributes := #[] }, { accessFlags := 8, nameIndex := 76, descriptorIndex := 77, attributes := #[] }, { accessFlags := 1, nameIndex := 82, descriptorIndex := 83, attributes := #[] }, { accessFlags := 1, nameIndex := 84, descriptorIndex := 85, attributes := #[] }, { accessFlags := 1, nameIndex := 86, descriptorIndex := 57, attributes := #[] }, { accessFlags := 1, nameIndex := 87, descriptorIndex := 57, attributes := #[] }, { accessFlags := 1, nameIndex := 88, descriptorIndex := 85, attributes := #[] }, { accessFlags := 1, nameIndex := 89, descriptorIndex := 85, attributes := #[] }, { accessFlags := 1, nameIndex := 90, descriptorIndex := 91, attributes := #[] }, { accessFlags := 1, nameIndex := 92, descriptorIndex := 85, attributes := #[] }, { accessFlags := 1, nameIndex := 93, descriptorIndex := 91, attributes := #[] }] 49 2 #[] #[{ accessFlags := 18, nameIndex := 11, descriptorIndex := 12, attributes := #[] }, { accessFlags := 18, nameIndex := 15, descriptorIndex := 16, attributes := #[] }, { accessFlags := 18, nameIndex := 19, descriptorIndex := 20, attributes := #[] }, { accessFlags := 18, nameIndex := 23, descriptorIndex := 20, attributes := #[] }, { accessFlags := 18, nameIndex := 26, descriptorIndex := 16, attributes := #[] }, { accessFlags := 18, nameIndex := 29, descriptorIndex := 16, attributes := #[] }, { accessFlags := 18, nameIndex := 32, descriptorIndex := 33, attributes := #[] }, { accessFlags := 18, nameIndex := 36, descriptorIndex := 16, attributes := #[] }, { accessFlags := 18, nameIndex := 39, descriptorIndex := 33, attributes := #[] }])
  fields := #[{ name := "status", type := (.object "com/example/appenddb/appenddb/VerifyResult$Status"), accessFlags := 18, slot := 0, constantValue := 0 }, { name := "records", type := .long, accessFlags := 18, slot := 1, constantValue := 0 }, { name := "segments", type := .int, accessFlags := 18, slot := 2, constantValue := 0 }, { name := "queues", type := .int, accessFlags := 18, slot := 3, constantValue := 0 }, { name := "indexEntries", type := .long, accessFlags := 18, slot := 4, constantValue := 0 }, { name := "logEnd", type := .long, accessFlags := 18, slot := 5, constantValue := 0 }, { name := "file", type := (.object "java/lang/String"), accessFlags := 18, slot := 6, constantValue := 0 }, { name := "offset", type := .long, accessFlags := 18, slot := 7, constantValue := 0 }, { name := "problem", type := (.object "java/lang/String"), accessFlags := 18, slot := 8, constantValue := 0 }]
  methods := #[k2m0, k2m1, k2m2, k2m3, k2m4, k2m5, k2m6, k2m7, k2m8, k2m9, k2m10]
  instanceTypes := #[(.object "com/example/appenddb/appenddb/VerifyResult$Status"), .long, .int, .int, .long, .long, (.object "java/lang/String"), .long, (.object "java/lang/String")]
  staticTypes := #[]
  resolved := Array.replicate 119 none
  statics := none }

def pool3 : Array CpInfo := pool [(1, .class_ 2), (0, u "java/lang/constant/Constable"), (0, .class_ 4), (0, u "java/lang/Object")] 6

/-- java/lang/constant/Constable -/
def k3 : Class := { plain "java/lang/constant/Constable" (some 0) with
  accessFlags := 1537
  interfaces := #[]
  cf := some (fileOf pool3 1 #[] #[] 1537 3 #[] #[])
  fields := #[]
  methods := #[]
  instanceTypes := #[]
  staticTypes := #[]
  resolved := Array.replicate 11 none
  statics := none }

def pool4 : Array CpInfo := pool [(1, .class_ 2), (0, u "java/lang/Comparable"), (0, .class_ 4), (0, u "java/lang/Object")] 7

/-- java/lang/Comparable -/
def k4 : Class := { plain "java/lang/Comparable" (some 0) with
  accessFlags := 1537
  interfaces := #[]
  cf := some (fileOf pool4 1 #[] #[] 1537 3 #[] #[])
  fields := #[]
  methods := #[]
  instanceTypes := #[]
  staticTypes := #[]
  resolved := Array.replicate 12 none
  statics := none }

def pool5 : Array CpInfo := pool [(1, .class_ 2), (0, u "java/io/Serializable"), (0, .class_ 4), (0, u "java/lang/Object")] 2

/-- java/io/Serializable -/
def k5 : Class := { plain "java/io/Serializable" (some 0) with
  accessFlags := 1537
  interfaces := #[]
  cf := some (fileOf pool5 1 #[] #[] 1537 3 #[] #[])
  fields := #[]
  methods := #[]
  instanceTypes := #[]
  staticTypes := #[]
  resolved := Array.replicate 7 none
  statics := none }

def pool6 : Array CpInfo := pool [(2, .class_ 4), (1, u "java/lang/Enum"), (0, u "name"), (0, u "Ljava/lang/String;"), (2, u "ordinal"), (0, u "I"), (1, .class_ 14), (1, u "java/lang/Object"), (4, u "hash"), (86, .class_ 108), (1, u "java/lang/Enum$EnumDesc"), (2, .class_ 112), (0, u "java/lang/constant/Constable"), (0, .class_ 114), (0, u "java/lang/Comparable"), (0, .class_ 116), (0, u "java/io/Serializable")] 87

/-- java/lang/Enum -/
def k6 : Class := { plain "java/lang/Enum" (some 0) with
  accessFlags := 1057
  interfaces := #[3, 4, 5]
  cf := some (fileOf pool6 2 #[.nestMembers #[106]] #[] 1057 12 #[111, 113, 115] #[{ accessFlags := 18, nameIndex := 5, descriptorIndex := 6, attributes := #[] }, { accessFlags := 18, nameIndex := 9, descriptorIndex := 10, attributes := #[] }, { accessFlags := 2, nameIndex := 19, descriptorIndex := 10, attributes := #[] }])
  fields := #[{ name := "name", type := (.object "java/lang/String"), accessFlags := 18, slot := 0, constantValue := 0 }, { name := "ordinal", type := .int, accessFlags := 18, slot := 1, constantValue := 0 }, { name := "hash", type := .int, accessFlags := 2, slot := 2, constantValue := 0 }]
  methods := #[]
  instanceTypes := #[(.object "java/lang/String"), .int, .int]
  staticTypes := #[]
  resolved := Array.replicate 204 none
  statics := none }

def pool7 : Array CpInfo := pool [(1, .class_ 2), (0, u "com/example/appenddb/appenddb/VerifyResult$Status"), (2, u "OK"), (0, u "Lcom/example/appenddb/appenddb/VerifyResult$Status;"), (2, u "DAMAGED"), (2, u "UNCLEAN"), (2, u "$VALUES"), (0, u "[Lcom/example/appenddb/appenddb/VerifyResult$Status;"), (6, .class_ 25), (1, u "java/lang/Enum"), (26, .class_ 53), (0, u "com/example/appenddb/appenddb/VerifyResult")] 2

/-- com/example/appenddb/appenddb/VerifyResult$Status -/
def k7 : Class := { plain "com/example/appenddb/appenddb/VerifyResult$Status" (some 6) with
  accessFlags := 16433
  interfaces := #[]
  cf := some (fileOf pool7 1 #[.nestHost 52] #[] 16433 23 #[] #[{ accessFlags := 16409, nameIndex := 5, descriptorIndex := 6, attributes := #[] }, { accessFlags := 16409, nameIndex := 9, descriptorIndex := 6, attributes := #[] }, { accessFlags := 16409, nameIndex := 12, descriptorIndex := 6, attributes := #[] }, { accessFlags := 4122, nameIndex := 15, descriptorIndex := 16, attributes := #[] }])
  fields := #[{ name := "OK", type := (.object "com/example/appenddb/appenddb/VerifyResult$Status"), accessFlags := 16409, slot := 0, constantValue := 0 }, { name := "DAMAGED", type := (.object "com/example/appenddb/appenddb/VerifyResult$Status"), accessFlags := 16409, slot := 1, constantValue := 0 }, { name := "UNCLEAN", type := (.object "com/example/appenddb/appenddb/VerifyResult$Status"), accessFlags := 16409, slot := 2, constantValue := 0 }, { name := "$VALUES", type := (.array (.object "com/example/appenddb/appenddb/VerifyResult$Status")), accessFlags := 4122, slot := 3, constantValue := 0 }]
  methods := #[]
  instanceTypes := #[(.object "java/lang/String"), .int, .int]
  staticTypes := #[(.object "com/example/appenddb/appenddb/VerifyResult$Status"), (.object "com/example/appenddb/appenddb/VerifyResult$Status"), (.object "com/example/appenddb/appenddb/VerifyResult$Status"), (.array (.object "com/example/appenddb/appenddb/VerifyResult$Status"))]
  resolved := Array.replicate 56 none
  statics := some 0 }

def pool8 : Array CpInfo := pool [(1, u "java/lang/Cloneable"), (0, .class_ 1), (0, u "java/lang/Object"), (0, .class_ 3)] 3

/-- java/lang/Cloneable -/
def k8 : Class := { plain "java/lang/Cloneable" (some 0) with
  accessFlags := 1537
  interfaces := #[]
  cf := some (fileOf pool8 2 #[] #[] 1537 4 #[] #[])
  fields := #[]
  methods := #[]
  instanceTypes := #[]
  staticTypes := #[]
  resolved := Array.replicate 8 none
  statics := none }

/-- the primitive byte -/
def k9 : Class := { plain "byte" none with kind := .primitive 'B', accessFlags := 0x411 }
/-- [B -/
def k10 : Class := { plain "[B" (some 0) with kind := .array 9 .byte, interfaces := #[8, 5], accessFlags := 1041 }

/-- the primitive int -/
def k11 : Class := { plain "int" none with kind := .primitive 'I', accessFlags := 0x411 }
/-- [I -/
def k12 : Class := { plain "[I" (some 0) with kind := .array 11 .int, interfaces := #[8, 5], accessFlags := 1041 }

def heap : Heap := #[{ cls := 7, slots := #[.ref 1, .null, .null, .null], vm := .statics 7 },
  { cls := 7, slots := #[.null, .int 0, .int 0], vm := .none }]
def classes : Array Class := #[k0, k1, k2, k3, k4, k5, k6, k7, k8, k9, k10, k11, k12]
def interned : List (Array UInt16 × Addr) := []
def slotsUsed : Nat := 7
def theMethod : MethodId := ⟨1, 1⟩
def args0 : Array Value := #[.long 5, .int 5, .int 5, .long 5, .long 5]
def aboutOver (below : List Frame) : State where
  vm := { classes := classes, interned := interned.toArray }
  heap := heap
  slotsUsed := slotsUsed
  threads := #[{ frames := .invoking theMethod args0 :: below }]
def below0 : List Frame := [.native { method := ⟨0, 0⟩, args := #[] }]
def about1 : State := aboutOver below0
def p0 : Program := .bare "" "" ""
def e0 : Env := launch0.env 0 0 0
theorem w_frames : about1.frames = Frame.invoking theMethod args0 :: below0 := rfl
set_option maxRecDepth 65536 in
theorem w_args : argsFit about1.vm theMethod args0 = true := by decide +kernel
set_option maxRecDepth 65536 in
theorem w_heap : heapFits about1 = true := by decide +kernel
set_option maxRecDepth 65536 in
theorem w_runnable : about1.curStatus? = some .runnable := by decide +kernel
set_option maxRecDepth 65536 in
theorem w_alone : about1.alone = true := by decide +kernel
set_option maxRecDepth 65536 in
theorem w_named : about1.methodNamed? x = some theMethod := by decide +kernel
set_option maxRecDepth 65536 in
theorem w_hears : about1.hears theMethod below0 = true := by decide +kernel
set_option maxRecDepth 65536 in
theorem w_ripe : about1.ripe theMethod args0 below0 = true := by decide +kernel
theorem w_running : about1.status = .running := rfl
set_option maxRecDepth 65536 in
theorem w_room : about1.hasRoom e0.platform room_1 = true :=
  launch0.hasRoom_least _ room_1 (by decide +kernel) (by decide +kernel) (by decide +kernel) (by decide +kernel) (by decide +kernel) (by decide +kernel)
theorem allAtoms_all (ts : List Jvm.Cond) (a : Array Jvm.Value) (st : Jvm.State) : (allAtoms ts).before a st = ts.all (fun c => c.before a st) := by
  induction ts with
  | nil => rfl
  | cons c t ih =>
    show (Jvm.Cond.and c (allAtoms t)).before a st = _
    rw [Jvm.Cond.before_and, ih, List.all_cons]
def words1 : List Jvm.Cond := Jvm.Cond.code x code maxLocals ret :: tables_1
/-- a 'code' word, met by the world's own term for the bytes: nothing is compared byte by byte -/
theorem code_word {y : MethodName} {bytes : ByteArray} {mx : Nat} {rt : Option FieldType} {a : Array Value} {s : State} {m : MethodId} {meth : Method} {c : Code} (h1 : s.methodNamed? y = some m) (h2 : s.vm.method? m = some meth) (h3 : meth.code = some c) (h4 : c.code = bytes)
    (h5 : (c.maxLocals == mx && c.exceptionTable.isEmpty && decide (c.maxStack ≤ mostOperands) && decide (meth.sig.returnType = rt) && !meth.locks && decide (parseMethodDescriptor y.desc = some meth.sig)) = true) : (Jvm.Cond.code y bytes mx rt).before a s = true := by
  simp only [Bool.and_eq_true, beq_iff_eq, Bool.not_eq_true', decide_eq_true_eq] at h5
  obtain ⟨⟨⟨⟨⟨g1, g2⟩, g3⟩, g4⟩, g5⟩, g6⟩ := h5
  simp [Cond.before, Cond.holds, Cond.value, h1, h2, h3, h4, g1, g2, g3, g4, g5, g6]
def isCode : Jvm.Cond → Bool
  | .code _ _ _ _ => true
  | _ => false
theorem all_split {L : List Jvm.Cond} {P : Jvm.Cond → Bool} (h1 : L.all (fun c => isCode c || P c) = true) (h2 : ∀ c ∈ L.filter isCode, P c = true) : L.all P = true := by
  refine List.all_eq_true.mpr fun c hc => ?_
  have h := List.all_eq_true.mp h1 c hc
  rcases Bool.eq_false_or_eq_true (isCode c) with hi | hi
  · exact h2 c (List.mem_filter.mpr ⟨hc, hi⟩)
  · simpa [hi] using h
set_option maxRecDepth 65536 in
theorem w_c0 : (Jvm.Cond.code x code maxLocals ret).before args0 about1 = true := code_word (m := ⟨1, 1⟩) (meth := k1m1) (c := k1c1) (by decide +kernel) rfl rfl rfl (by decide +kernel)
set_option maxRecDepth 65536 in
theorem w_c1 : (Jvm.Cond.code ({ cls := "com/example/appenddb/appenddb/VerifyResult", name := "whole", desc := "(JIIJJ)Lcom/example/appenddb/appenddb/VerifyResult;" } : Jvm.MethodName) prog_9_method_2_code (8 : Nat) (Option.some (Jvm.ClassFile.FieldType.object "com/example/appenddb/appenddb/VerifyResult"))).before args0 about1 = true := code_word (m := ⟨2, 1⟩) (meth := k2m1) (c := k2c1) (by decide +kernel) rfl rfl rfl (by decide +kernel)
set_option maxRecDepth 65536 in
theorem w_c2 : (Jvm.Cond.code ({ cls := "com/example/appenddb/appenddb/VerifyResult", name := "<init>", desc := "(Lcom/example/appenddb/appenddb/VerifyResult$Status;JIIJJLjava/lang/String;JLjava/lang/String;)V" } : Jvm.MethodName) prog_9_method_1_code (14 : Nat) (Option.none : Option Jvm.ClassFile.FieldType)).before args0 about1 = true := code_word (m := ⟨2, 0⟩) (meth := k2m0) (c := k2c0) (by decide +kernel) rfl rfl rfl (by decide +kernel)
set_option maxRecDepth 65536 in
theorem w_c3 : (Jvm.Cond.code ({ cls := "java/lang/Object", name := "<init>", desc := "()V" } : Jvm.MethodName) object_method_1_code (1 : Nat) (Option.none : Option Jvm.ClassFile.FieldType)).before args0 about1 = true := code_word (m := ⟨0, 0⟩) (meth := k0m0) (c := k0c0) (by decide +kernel) rfl rfl rfl (by decide +kernel)
set_option maxRecDepth 65536 in
theorem w_c4 : (Jvm.Cond.code ({ cls := "com/example/appenddb/appenddb/VerifyResult", name := "getStatus", desc := "()Lcom/example/appenddb/appenddb/VerifyResult$Status;" } : Jvm.MethodName) prog_9_method_5_code (1 : Nat) (Option.some (Jvm.ClassFile.FieldType.object "com/example/appenddb/appenddb/VerifyResult$Status"))).before args0 about1 = true := code_word (m := ⟨2, 2⟩) (meth := k2m2) (c := k2c2) (by decide +kernel) rfl rfl rfl (by decide +kernel)
set_option maxRecDepth 65536 in
theorem w_c5 : (Jvm.Cond.code ({ cls := "com/example/appenddb/appenddb/VerifyResult", name := "getRecords", desc := "()J" } : Jvm.MethodName) prog_9_method_6_code (1 : Nat) (Option.some Jvm.ClassFile.FieldType.long)).before args0 about1 = true := code_word (m := ⟨2, 3⟩) (meth := k2m3) (c := k2c3) (by decide +kernel) rfl rfl rfl (by decide +kernel)
set_option maxRecDepth 65536 in
theorem w_c6 : (Jvm.Cond.code ({ cls := "com/example/appenddb/appenddb/VerifyResult", name := "getSegments", desc := "()I" } : Jvm.MethodName) prog_9_method_7_code (1 : Nat) (Option.some Jvm.ClassFile.FieldType.int)).before args0 about1 = true := code_word (m := ⟨2, 4⟩) (meth := k2m4) (c := k2c4) (by decide +kernel) rfl rfl rfl (by decide +kernel)
set_option maxRecDepth 65536 in
theorem w_c7 : (Jvm.Cond.code ({ cls := "com/example/appenddb/appenddb/VerifyResult", name := "getQueues", desc := "()I" } : Jvm.MethodName) prog_9_method_8_code (1 : Nat) (Option.some Jvm.ClassFile.FieldType.int)).before args0 about1 = true := code_word (m := ⟨2, 5⟩) (meth := k2m5) (c := k2c5) (by decide +kernel) rfl rfl rfl (by decide +kernel)
set_option maxRecDepth 65536 in
theorem w_c8 : (Jvm.Cond.code ({ cls := "com/example/appenddb/appenddb/VerifyResult", name := "getIndexEntries", desc := "()J" } : Jvm.MethodName) prog_9_method_9_code (1 : Nat) (Option.some Jvm.ClassFile.FieldType.long)).before args0 about1 = true := code_word (m := ⟨2, 6⟩) (meth := k2m6) (c := k2c6) (by decide +kernel) rfl rfl rfl (by decide +kernel)
set_option maxRecDepth 65536 in
theorem w_c9 : (Jvm.Cond.code ({ cls := "com/example/appenddb/appenddb/VerifyResult", name := "getLogEnd", desc := "()J" } : Jvm.MethodName) prog_9_method_10_code (1 : Nat) (Option.some Jvm.ClassFile.FieldType.long)).before args0 about1 = true := code_word (m := ⟨2, 7⟩) (meth := k2m7) (c := k2c7) (by decide +kernel) rfl rfl rfl (by decide +kernel)
set_option maxRecDepth 65536 in
theorem w_c10 : (Jvm.Cond.code ({ cls := "com/example/appenddb/appenddb/VerifyResult", name := "getFile", desc := "()Ljava/lang/String;" } : Jvm.MethodName) prog_9_method_11_code (1 : Nat) (Option.some (Jvm.ClassFile.FieldType.object "java/lang/String"))).before args0 about1 = true := code_word (m := ⟨2, 8⟩) (meth := k2m8) (c := k2c8) (by decide +kernel) rfl rfl rfl (by decide +kernel)
set_option maxRecDepth 65536 in
theorem w_c11 : (Jvm.Cond.code ({ cls := "com/example/appenddb/appenddb/VerifyResult", name := "getOffset", desc := "()J" } : Jvm.MethodName) prog_9_method_12_code (1 : Nat) (Option.some Jvm.ClassFile.FieldType.long)).before args0 about1 = true := code_word (m := ⟨2, 9⟩) (meth := k2m9) (c := k2c9) (by decide +kernel) rfl rfl rfl (by decide +kernel)
set_option maxRecDepth 65536 in
theorem w_c12 : (Jvm.Cond.code ({ cls := "com/example/appenddb/appenddb/VerifyResult", name := "getProblem", desc := "()Ljava/lang/String;" } : Jvm.MethodName) prog_9_method_13_code (1 : Nat) (Option.some (Jvm.ClassFile.FieldType.object "java/lang/String"))).before args0 about1 = true := code_word (m := ⟨2, 10⟩) (meth := k2m10) (c := k2c10) (by decide +kernel) rfl rfl rfl (by decide +kernel)
def codes1 : List Jvm.Cond := [Jvm.Cond.code x code maxLocals ret, Jvm.Cond.code ({ cls := "com/example/appenddb/appenddb/VerifyResult", name := "whole", desc := "(JIIJJ)Lcom/example/appenddb/appenddb/VerifyResult;" } : Jvm.MethodName) prog_9_method_2_code (8 : Nat) (Option.some (Jvm.ClassFile.FieldType.object "com/example/appenddb/appenddb/VerifyResult")), Jvm.Cond.code ({ cls := "com/example/appenddb/appenddb/VerifyResult", name := "<init>", desc := "(Lcom/example/appenddb/appenddb/VerifyResult$Status;JIIJJLjava/lang/String;JLjava/lang/String;)V" } : Jvm.MethodName) prog_9_method_1_code (14 : Nat) (Option.none : Option Jvm.ClassFile.FieldType), Jvm.Cond.code ({ cls := "java/lang/Object", name := "<init>", desc := "()V" } : Jvm.MethodName) object_method_1_code (1 : Nat) (Option.none : Option Jvm.ClassFile.FieldType), Jvm.Cond.code ({ cls := "com/example/appenddb/appenddb/VerifyResult", name := "getStatus", desc := "()Lcom/example/appenddb/appenddb/VerifyResult$Status;" } : Jvm.MethodName) prog_9_method_5_code (1 : Nat) (Option.some (Jvm.ClassFile.FieldType.object "com/example/appenddb/appenddb/VerifyResult$Status")), Jvm.Cond.code ({ cls := "com/example/appenddb/appenddb/VerifyResult", name := "getRecords", desc := "()J" } : Jvm.MethodName) prog_9_method_6_code (1 : Nat) (Option.some Jvm.ClassFile.FieldType.long), Jvm.Cond.code ({ cls := "com/example/appenddb/appenddb/VerifyResult", name := "getSegments", desc := "()I" } : Jvm.MethodName) prog_9_method_7_code (1 : Nat) (Option.some Jvm.ClassFile.FieldType.int), Jvm.Cond.code ({ cls := "com/example/appenddb/appenddb/VerifyResult", name := "getQueues", desc := "()I" } : Jvm.MethodName) prog_9_method_8_code (1 : Nat) (Option.some Jvm.ClassFile.FieldType.int), Jvm.Cond.code ({ cls := "com/example/appenddb/appenddb/VerifyResult", name := "getIndexEntries", desc := "()J" } : Jvm.MethodName) prog_9_method_9_code (1 : Nat) (Option.some Jvm.ClassFile.FieldType.long), Jvm.Cond.code ({ cls := "com/example/appenddb/appenddb/VerifyResult", name := "getLogEnd", desc := "()J" } : Jvm.MethodName) prog_9_method_10_code (1 : Nat) (Option.some Jvm.ClassFile.FieldType.long), Jvm.Cond.code ({ cls := "com/example/appenddb/appenddb/VerifyResult", name := "getFile", desc := "()Ljava/lang/String;" } : Jvm.MethodName) prog_9_method_11_code (1 : Nat) (Option.some (Jvm.ClassFile.FieldType.object "java/lang/String")), Jvm.Cond.code ({ cls := "com/example/appenddb/appenddb/VerifyResult", name := "getOffset", desc := "()J" } : Jvm.MethodName) prog_9_method_12_code (1 : Nat) (Option.some Jvm.ClassFile.FieldType.long), Jvm.Cond.code ({ cls := "com/example/appenddb/appenddb/VerifyResult", name := "getProblem", desc := "()Ljava/lang/String;" } : Jvm.MethodName) prog_9_method_13_code (1 : Nat) (Option.some (Jvm.ClassFile.FieldType.object "java/lang/String"))]
set_option maxRecDepth 65536 in
theorem codes_eq : words1.filter isCode = codes1 := rfl
theorem w_codes : ∀ c ∈ words1.filter isCode, c.before args0 about1 = true := by
  rw [codes_eq]
  intro c hc
  simp only [codes1, List.mem_cons, List.not_mem_nil, or_false] at hc
  rcases hc with rfl | rfl | rfl | rfl | rfl | rfl | rfl | rfl | rfl | rfl | rfl | rfl | rfl
  · exact w_c0
  · exact w_c1
  · exact w_c2
  · exact w_c3
  · exact w_c4
  · exact w_c5
  · exact w_c6
  · exact w_c7
  · exact w_c8
  · exact w_c9
  · exact w_c10
  · exact w_c11
  · exact w_c12
set_option maxRecDepth 65536 in
theorem w_t1 : (words1.take 24).all (fun c => isCode c || c.before args0 about1) = true := by decide +kernel
set_option maxRecDepth 65536 in
theorem w_t2 : ((words1.drop 24).take 24).all (fun c => isCode c || c.before args0 about1) = true := by decide +kernel
set_option maxRecDepth 65536 in
theorem w_t3 : (((words1.drop 24).drop 24).take 24).all (fun c => isCode c || c.before args0 about1) = true := by decide +kernel
set_option maxRecDepth 65536 in
theorem w_t4 : (((words1.drop 24).drop 24).drop 24).all (fun c => isCode c || c.before args0 about1) = true := by decide +kernel
theorem w_tables : (allAtoms (Jvm.Cond.code x code maxLocals ret :: tables_1)).before args0 about1 = true := by
  rw [allAtoms_all]
  show words1.all (fun c => c.before args0 about1) = true
  refine all_split ?_ w_codes
  rw [← List.take_append_drop 24 words1, List.all_append, w_t1, ← List.take_append_drop 24 (words1.drop 24), List.all_append, w_t2, ← List.take_append_drop 24 ((words1.drop 24).drop 24), List.all_append, w_t3, w_t4]
  rfl
set_option maxRecDepth 65536 in
theorem w_case : (Jvm.Cond.and given_1 narrow_1).before args0 about1 = true := by decide +kernel
theorem w_applies : (headSpec (Jvm.Cond.code x code maxLocals ret :: tables_1) room_1).applies x e0.platform about1 = true :=
  (Spec.applies_iff w_frames).mpr ⟨w_running, w_runnable, w_alone, w_named, w_hears, w_ripe, w_room, w_tables⟩
theorem atStart : AtStart classFile x code maxLocals ret World_1 tables_1 room_1 Calls_1 rest_1 Pre_1 launch0 p0 e0 about1 theMethod args0 below0 :=
  ⟨lists_1, trivial, launch0.admits_env _ _ _, launch0.least_env, fairChoices_fair.cas, fairChoices_fair.clock, w_frames, w_args, w_heap, w_applies, trivial, trivial, w_case⟩
end start1
theorem witness_1 : WitnessClaimed_1 := ⟨start1.p0, start1.e0, start1.about1, start1.theMethod, start1.args0, start1.below0, start1.atStart⟩
end Jvm.Pilot.@@N@@
