import JvmDerived
import JvmDerived.Pilot.@@N@@Statement
import JvmDerived.Pilot.@@N@@Code
set_option linter.unusedVariables false
set_option linter.unusedSimpArgs false
namespace Jvm.RoadKit
open Sem ClassFile Op Lib Jvm.Stand Jvm.Free Jvm.LawKit
section Own
variable {p : Program} {l : Launch} {e : Env} {R : Room} {s : State} {m : MethodId} {args : Array Value} {below : List Frame} {meth : Method} {c : Code} {T : State} {locs : List Loc} {cells slots : Nat}
/-- from S the run comes to an end of which K holds -/
def own_Go (p : Program) (e : Env) (below : List Frame) (K : State → Outcome → Prop) (S : State) : Prop := ∃ t o, Steps p.tables e below S t ∧ t.status = .running ∧ Ended t below o ∧ K t o
def own_K (s : State) (Q : Option Value → Heap → List Loc → Prop) (k n : Nat) (t : State) (o : Outcome) : Prop := ∃ v L, o = .returned v ∧ Q v t.heap L ∧ FrameEnd s o t L k n
theorem own_go {K : State → Outcome → Prop} {S S' : State} (h : ∀ t, Steps p.tables e below S' t → Steps p.tables e below S t) (g : own_Go p e below K S') : own_Go p e below K S := by
  obtain ⟨t, o, h1, h2⟩ := g; exact ⟨t, o, h t h1, h2⟩
theorem own_via {K : State → Outcome → Prop} {S S' : State} (h : Steps p.tables e below S S') (g : own_Go p e below K S') : own_Go p e below K S := by
  obtain ⟨t, o, h1, h2⟩ := g; exact ⟨t, o, h.trans h1, h2⟩
variable {Q : Option Value → Heap → List Loc → Prop} {k n : Nat}
theorem own_end (X : Stand p l e R s m args below meth c T locs cells slots) {v : Option Value} (hlk : meth.locks = false) (hv : meth.sig.returnType = none → v = none) (hk : cells ≤ k) (hn : slots ≤ n) (hQ : Q v T.heap locs) {S : State}
    (st : ∀ fs, (∀ (f : JFrame) (acts : List Action), f.method = m → f.locked = none → f.entered = [] → (doReturn e (T.setTop f) acts v).1 = T.setFrames fs) → Steps p.tables e below S (T.setFrames fs)) : own_Go p e below (own_K s Q k n) S := by
  obtain ⟨fs, hr, hrun, hended, hW, hsame⟩ := X.leave hv hlk
  exact ⟨_, _, st fs hr, hrun, hended, v, locs, rfl, hQ, ⟨_, rfl⟩, hW, hsame.mono hk hn⟩
theorem own_ret0 (X : Stand p l e R s m args below meth c T locs cells slots) (hx : p.tables.exec = Jvm.exec) (hlk : meth.locks = false) (hret : meth.sig.returnType = none) {pc : Nat} {Ls : Array Slot} (hd : decode c.code pc = .ok (.return_, 1)) (hk : cells ≤ k) (hn : slots ≤ n) (hQ : Q none T.heap locs) :
    own_Go p e below (own_K s Q k n) (T.setTop (mkF m pc Ls [])) := own_end X hlk (fun _ => rfl) hk hn hQ fun _ hr => X.returnOut hx hret hd hr
theorem own_retN (X : Stand p l e R s m args below meth c T locs cells slots) (hx : p.tables.exec = Jvm.exec) (hlk : meth.locks = false) {t : FieldType} (hret : meth.sig.returnType = some t) (ht : t = .boolean ∨ t = .byte ∨ t = .char ∨ t = .short) {pc : Nat} {Ls : Array Slot} {z : Int32} {rest : List Value} (hd : decode c.code pc = .ok (.ireturn, 1)) (hk : cells ≤ k) (hn : slots ≤ n) (hQ : Q (some (.int (nar t z))) T.heap locs) :
    own_Go p e below (own_K s Q k n) (T.setTop (mkF m pc Ls (.int z :: rest))) := own_end X hlk (fun h => by rw [hret] at h; cases h) hk hn hQ fun _ hr => retN X hx hret ht hd hr
theorem own_retI (X : Stand p l e R s m args below meth c T locs cells slots) (hx : p.tables.exec = Jvm.exec) (hlk : meth.locks = false) (hret : meth.sig.returnType = some .int) {pc : Nat} {Ls : Array Slot} {z : Int32} {rest : List Value} (hd : decode c.code pc = .ok (.ireturn, 1)) (hk : cells ≤ k) (hn : slots ≤ n) (hQ : Q (some (.int z)) T.heap locs) :
    own_Go p e below (own_K s Q k n) (T.setTop (mkF m pc Ls (.int z :: rest))) := own_end X hlk (fun h => by rw [hret] at h; cases h) hk hn hQ fun _ hr => retOut X hx hret rfl (Or.inl ⟨rfl, Or.inl rfl, z, rfl⟩) hd hr
theorem own_retJ (X : Stand p l e R s m args below meth c T locs cells slots) (hx : p.tables.exec = Jvm.exec) (hlk : meth.locks = false) (hret : meth.sig.returnType = some .long) {pc : Nat} {Ls : Array Slot} {z : Int64} {rest : List Value} (hd : decode c.code pc = .ok (.lreturn, 1)) (hk : cells ≤ k) (hn : slots ≤ n) (hQ : Q (some (.long z)) T.heap locs) :
    own_Go p e below (own_K s Q k n) (T.setTop (mkF m pc Ls (.long z :: rest))) := own_end X hlk (fun h => by rw [hret] at h; cases h) hk hn hQ fun _ hr => retOut X hx hret rfl (Or.inr (Or.inl ⟨rfl, rfl, z, rfl⟩)) hd hr
theorem own_retR (X : Stand p l e R s m args below meth c T locs cells slots) (hx : p.tables.exec = Jvm.exec) (hlk : meth.locks = false) {t : FieldType} (hret : meth.sig.returnType = some t) (ht : t.isReference = true) {pc : Nat} {Ls : Array Slot} {w : Value} {rest : List Value} (hw : w.isRef = true) (hd : decode c.code pc = .ok (.areturn, 1)) (hk : cells ≤ k) (hn : slots ≤ n) (hQ : Q (some w) T.heap locs) :
    own_Go p e below (own_K s Q k n) (T.setTop (mkF m pc Ls (w :: rest))) := own_end X hlk (fun h => by rw [hret] at h; cases h) hk hn hQ fun _ hr => retOut X hx hret (by cases t <;> first | rfl | cases ht) (Or.inr (Or.inr (Or.inr (Or.inr ⟨rfl, ht, hw⟩)))) hd hr
section Arrays
variable {Z : State} {h : Heap} {a : Addr} {k : ClassId} {ty : FieldType} {z : Int32} {vs : List Value} {dv : Value}
theorem own_iaload {g : JFrame} {target : State} (X : Stand p l e R s m args below meth c T locs cells slots) (hx : p.tables.exec = Jvm.exec) (hZ : Z.Warmed39 s.vm) (eT : T.heap = h) (F : Arv Z h a k .int z vs dv) (j : Int32) (v : Value) (hj : ¬ j < 0 ∧ j < z) (hat : vs.getD j.toNatClampNeg dv = v) (hg : g.method = m) {rest : List Value} (hs : g.stack = .int j :: .ref a :: rest) (hd : decode c.code g.pc = .ok (.iaload, 1))
    (hr : Steps p.tables e below (T.setTop { g with pc := g.pc + 1, stack := v :: rest }) target) : Steps p.tables e below (T.setTop g) target := by
  obtain ⟨cl, A, q, S, N, H, G⟩ := F
  have hi := inb_of S hj
  exact X.iaload hx (j := j) (v := v) (by rw [eT]; exact A.1) (State.isArrayOf_alike hZ.alike A.2.1) A.2.2 hi (Has.at H hi hat) hg hs hd _ hr
theorem own_caload {g : JFrame} {target : State} (X : Stand p l e R s m args below meth c T locs cells slots) (hx : p.tables.exec = Jvm.exec) (hZ : Z.Warmed39 s.vm) (eT : T.heap = h) (F : Arv Z h a k .char z vs dv) (j : Int32) (v : Value) (hj : ¬ j < 0 ∧ j < z) (hat : vs.getD j.toNatClampNeg dv = v) (hg : g.method = m) {rest : List Value} (hs : g.stack = .int j :: .ref a :: rest) (hd : decode c.code g.pc = .ok (.caload, 1))
    (hr : Steps p.tables e below (T.setTop { g with pc := g.pc + 1, stack := v :: rest }) target) : Steps p.tables e below (T.setTop g) target := by
  obtain ⟨cl, A, q, S, N, H, G⟩ := F
  have hi := inb_of S hj
  exact X.caload hx (j := j) (v := v) (by rw [eT]; exact A.1) (State.isArrayOf_alike hZ.alike A.2.1) A.2.2 hi (Has.at H hi hat) hg hs hd _ hr
theorem own_saload {g : JFrame} {target : State} (X : Stand p l e R s m args below meth c T locs cells slots) (hx : p.tables.exec = Jvm.exec) (hZ : Z.Warmed39 s.vm) (eT : T.heap = h) (F : Arv Z h a k .short z vs dv) (j : Int32) (v : Value) (hj : ¬ j < 0 ∧ j < z) (hat : vs.getD j.toNatClampNeg dv = v) (hg : g.method = m) {rest : List Value} (hs : g.stack = .int j :: .ref a :: rest) (hd : decode c.code g.pc = .ok (.saload, 1))
    (hr : Steps p.tables e below (T.setTop { g with pc := g.pc + 1, stack := v :: rest }) target) : Steps p.tables e below (T.setTop g) target := by
  obtain ⟨cl, A, q, S, N, H, G⟩ := F
  have hi := inb_of S hj
  exact X.saload hx (j := j) (v := v) (by rw [eT]; exact A.1) (State.isArrayOf_alike hZ.alike A.2.1) A.2.2 hi (Has.at H hi hat) hg hs hd _ hr
theorem own_baload {g : JFrame} {target : State} (X : Stand p l e R s m args below meth c T locs cells slots) (hx : p.tables.exec = Jvm.exec) (hZ : Z.Warmed39 s.vm) (eT : T.heap = h) (F : Arv Z h a k .byte z vs dv) (j : Int32) (v : Value) (hj : ¬ j < 0 ∧ j < z) (hat : vs.getD j.toNatClampNeg dv = v) (hg : g.method = m) {rest : List Value} (hs : g.stack = .int j :: .ref a :: rest) (hd : decode c.code g.pc = .ok (.baload, 1))
    (hr : Steps p.tables e below (T.setTop { g with pc := g.pc + 1, stack := v :: rest }) target) : Steps p.tables e below (T.setTop g) target := by
  obtain ⟨cl, A, q, S, N, H, G⟩ := F
  have hi := inb_of S hj
  exact X.baloadBytes hx (j := j) (v := v) (by rw [eT]; exact A.1) (State.isArrayOf_alike hZ.alike A.2.1) A.2.2 hi (Has.at H hi hat) hg hs hd _ hr
theorem own_zaload {g : JFrame} {target : State} (X : Stand p l e R s m args below meth c T locs cells slots) (hx : p.tables.exec = Jvm.exec) (hZ : Z.Warmed39 s.vm) (eT : T.heap = h) (F : Arv Z h a k .boolean z vs dv) (j : Int32) (v : Value) (hj : ¬ j < 0 ∧ j < z) (hat : vs.getD j.toNatClampNeg dv = v) (hg : g.method = m) {rest : List Value} (hs : g.stack = .int j :: .ref a :: rest) (hd : decode c.code g.pc = .ok (.baload, 1))
    (hr : Steps p.tables e below (T.setTop { g with pc := g.pc + 1, stack := v :: rest }) target) : Steps p.tables e below (T.setTop g) target := by
  obtain ⟨cl, A, q, S, N, H, G⟩ := F
  have hi := inb_of S hj
  exact X.baloadBooleans hx (j := j) (v := v) (by rw [eT]; exact A.1) (State.isArrayOf_alike hZ.alike A.2.1) A.2.2 hi (Has.at H hi hat) hg hs hd _ hr
theorem own_laload {g : JFrame} {target : State} (X : Stand p l e R s m args below meth c T locs cells slots) (hx : p.tables.exec = Jvm.exec) (hZ : Z.Warmed39 s.vm) (eT : T.heap = h) (F : Arv Z h a k .long z vs dv) (j : Int32) (v : Value) (hj : ¬ j < 0 ∧ j < z) (hat : vs.getD j.toNatClampNeg dv = v) (hg : g.method = m) {rest : List Value} (hs : g.stack = .int j :: .ref a :: rest) (hd : decode c.code g.pc = .ok (.laload, 1))
    (hr : Steps p.tables e below (T.setTop { g with pc := g.pc + 1, stack := v :: rest }) target) : Steps p.tables e below (T.setTop g) target := by
  obtain ⟨cl, A, q, S, N, H, G⟩ := F
  have hi := inb_of S hj
  exact X.laload hx (j := j) (v := v) (by rw [eT]; exact A.1) (State.isArrayOf_alike hZ.alike A.2.1) A.2.2 hi (Has.at H hi hat) hg hs hd _ hr
theorem own_aaload {g : JFrame} {target : State} (X : Stand p l e R s m args below meth c T locs cells slots) (hx : p.tables.exec = Jvm.exec) (hZ : Z.Warmed39 s.vm) (eT : T.heap = h) (F : Arv Z h a k ty z vs dv) (j : Int32) (v : Value) (hj : ¬ j < 0 ∧ j < z) (hat : vs.getD j.toNatClampNeg dv = v) (hty : ty.isReference = true) (hg : g.method = m) {rest : List Value} (hs : g.stack = .int j :: .ref a :: rest) (hd : decode c.code g.pc = .ok (.aaload, 1))
    (hr : Steps p.tables e below (T.setTop { g with pc := g.pc + 1, stack := v :: rest }) target) : Steps p.tables e below (T.setTop g) target := by
  obtain ⟨cl, A, q, S, N, H, G⟩ := F
  have hi := inb_of S hj
  exact X.aaload hx (j := j) (v := v) (by rw [eT]; exact A.1) (State.isArrayOf_alike hZ.alike A.2.1) hty A.2.2 hi (Has.at H hi hat) hg hs hd _ hr
theorem own_alen {g : JFrame} {target : State} (X : Stand p l e R s m args below meth c T locs cells slots) (hx : p.tables.exec = Jvm.exec) (hZ : Z.Warmed39 s.vm) (eT : T.heap = h) (F : Arv Z h a k ty z vs dv) (hg : g.method = m) {rest : List Value} (hs : g.stack = .ref a :: rest) (hd : decode c.code g.pc = .ok (.arraylength, 1))
    (hr : Steps p.tables e below (T.setTop { g with pc := g.pc + 1, stack := .int z :: rest }) target) : Steps p.tables e below (T.setTop g) target := by
  obtain ⟨cl, A, q, S, N, -, -⟩ := F
  exact X.arraylength hx (by rw [eT]; exact A.1) (State.isArrayOf_alike hZ.alike A.2.1) hg hs hd _ (by rw [len_of S N]; exact hr)
theorem own_stI {K : State → Outcome → Prop} {n0 : Nat} (X : Stand p l e R s m args below meth c T locs cells slots) (hx : p.tables.exec = Jvm.exec) (hZ : Z.Warmed39 s.vm) (eT : T.heap = h) (F : Arv Z h a k .int z vs dv) (j : Int32) (x : Int32) (i : Nat) (hj : ¬ j < 0 ∧ j < z) (hi : j.toNatClampNeg = i) (hl : i < vs.length) (vs' : List Value) (hv : vs.set i (.int x) = vs') (N : Fr n0 locs) (ge : n0 ≤ a) {pc : Nat} {Ls : Array Slot} {rest : List Value} (hd : decode c.code pc = .ok (.iastore, 1))
    (kk : ∀ (T' : State) (h' : Heap) (L' : List Loc), Stand p l e R s m args below meth c T' L' cells slots → T'.heap = h' → Wr h h' a i (.int x) → Fr n0 L' → Arv Z h' a k .int z vs' dv → own_Go p e below K (T'.setTop (mkF m (pc + 1) Ls rest))) : own_Go p e below K (T.setTop (mkF m pc Ls (.int x :: .int j :: .ref a :: rest))) := by
  obtain ⟨cl, A, q, S, M, H, G⟩ := F
  subst hi; subst hv
  obtain ⟨T', h', X', e', W, st⟩ := stI X hx hZ eT A (j := j) (inb_of S hj) (g := mkF m pc Ls (.int x :: .int j :: .ref a :: rest)) rfl rfl hd
  exact own_go st (kk T' h' _ X' e' W (Fr.snoc X' N ge) (Arv.set A q S M H G rfl W _ rfl hl))
theorem own_stJ {K : State → Outcome → Prop} {n0 : Nat} (X : Stand p l e R s m args below meth c T locs cells slots) (hx : p.tables.exec = Jvm.exec) (hZ : Z.Warmed39 s.vm) (eT : T.heap = h) (F : Arv Z h a k .long z vs dv) (j : Int32) (x : Int64) (i : Nat) (hj : ¬ j < 0 ∧ j < z) (hi : j.toNatClampNeg = i) (hl : i < vs.length) (vs' : List Value) (hv : vs.set i (.long x) = vs') (N : Fr n0 locs) (ge : n0 ≤ a) {pc : Nat} {Ls : Array Slot} {rest : List Value} (hd : decode c.code pc = .ok (.lastore, 1))
    (kk : ∀ (T' : State) (h' : Heap) (L' : List Loc), Stand p l e R s m args below meth c T' L' cells slots → T'.heap = h' → Wr h h' a i (.long x) → Fr n0 L' → Arv Z h' a k .long z vs' dv → own_Go p e below K (T'.setTop (mkF m (pc + 1) Ls rest))) : own_Go p e below K (T.setTop (mkF m pc Ls (.long x :: .int j :: .ref a :: rest))) := by
  obtain ⟨cl, A, q, S, M, H, G⟩ := F
  subst hi; subst hv
  obtain ⟨T', h', X', e', W, st⟩ := stJ X hx hZ eT A (j := j) (inb_of S hj) (g := mkF m pc Ls (.long x :: .int j :: .ref a :: rest)) rfl rfl hd
  exact own_go st (kk T' h' _ X' e' W (Fr.snoc X' N ge) (Arv.set A q S M H G rfl W _ rfl hl))
theorem own_stB {K : State → Outcome → Prop} {n0 : Nat} (X : Stand p l e R s m args below meth c T locs cells slots) (hx : p.tables.exec = Jvm.exec) (hZ : Z.Warmed39 s.vm) (eT : T.heap = h) (F : Arv Z h a k .byte z vs dv) (j : Int32) (x x' : Int32) (i : Nat) (hj : ¬ j < 0 ∧ j < z) (hi : j.toNatClampNeg = i) (hl : i < vs.length) (hn : nar .byte x = x') (vs' : List Value) (hv : vs.set i (.int x') = vs') (N : Fr n0 locs) (ge : n0 ≤ a) {pc : Nat} {Ls : Array Slot} {rest : List Value} (hd : decode c.code pc = .ok (.bastore, 1))
    (kk : ∀ (T' : State) (h' : Heap) (L' : List Loc), Stand p l e R s m args below meth c T' L' cells slots → T'.heap = h' → Wr h h' a i (.int x') → Fr n0 L' → Arv Z h' a k .byte z vs' dv → own_Go p e below K (T'.setTop (mkF m (pc + 1) Ls rest))) : own_Go p e below K (T.setTop (mkF m pc Ls (.int x :: .int j :: .ref a :: rest))) := by
  obtain ⟨cl, A, q, S, M, H, G⟩ := F
  subst hn; subst hi; subst hv
  obtain ⟨T', h', X', e', W, st⟩ := stB X hx hZ eT A (j := j) (inb_of S hj) (g := mkF m pc Ls (.int x :: .int j :: .ref a :: rest)) rfl rfl hd
  exact own_go st (kk T' h' _ X' e' W (Fr.snoc X' N ge) (Arv.set A q S M H G (fits_nar_byte _) W _ rfl hl))
theorem own_stZ {K : State → Outcome → Prop} {n0 : Nat} (X : Stand p l e R s m args below meth c T locs cells slots) (hx : p.tables.exec = Jvm.exec) (hZ : Z.Warmed39 s.vm) (eT : T.heap = h) (F : Arv Z h a k .boolean z vs dv) (j : Int32) (x x' : Int32) (i : Nat) (hj : ¬ j < 0 ∧ j < z) (hi : j.toNatClampNeg = i) (hl : i < vs.length) (hn : nar .boolean x = x') (vs' : List Value) (hv : vs.set i (.int x') = vs') (N : Fr n0 locs) (ge : n0 ≤ a) {pc : Nat} {Ls : Array Slot} {rest : List Value} (hd : decode c.code pc = .ok (.bastore, 1))
    (kk : ∀ (T' : State) (h' : Heap) (L' : List Loc), Stand p l e R s m args below meth c T' L' cells slots → T'.heap = h' → Wr h h' a i (.int x') → Fr n0 L' → Arv Z h' a k .boolean z vs' dv → own_Go p e below K (T'.setTop (mkF m (pc + 1) Ls rest))) : own_Go p e below K (T.setTop (mkF m pc Ls (.int x :: .int j :: .ref a :: rest))) := by
  obtain ⟨cl, A, q, S, M, H, G⟩ := F
  subst hn; subst hi; subst hv
  obtain ⟨T', h', X', e', W, st⟩ := stZ X hx hZ eT A (j := j) (inb_of S hj) (g := mkF m pc Ls (.int x :: .int j :: .ref a :: rest)) rfl rfl hd
  exact own_go st (kk T' h' _ X' e' W (Fr.snoc X' N ge) (Arv.set A q S M H G (fits_nar_bool _) W _ rfl hl))
theorem own_stC {K : State → Outcome → Prop} {n0 : Nat} (X : Stand p l e R s m args below meth c T locs cells slots) (hx : p.tables.exec = Jvm.exec) (hZ : Z.Warmed39 s.vm) (eT : T.heap = h) (F : Arv Z h a k .char z vs dv) (j : Int32) (x x' : Int32) (i : Nat) (hj : ¬ j < 0 ∧ j < z) (hi : j.toNatClampNeg = i) (hl : i < vs.length) (hn : nar .char x = x') (vs' : List Value) (hv : vs.set i (.int x') = vs') (N : Fr n0 locs) (ge : n0 ≤ a) {pc : Nat} {Ls : Array Slot} {rest : List Value} (hd : decode c.code pc = .ok (.castore, 1))
    (kk : ∀ (T' : State) (h' : Heap) (L' : List Loc), Stand p l e R s m args below meth c T' L' cells slots → T'.heap = h' → Wr h h' a i (.int x') → Fr n0 L' → Arv Z h' a k .char z vs' dv → own_Go p e below K (T'.setTop (mkF m (pc + 1) Ls rest))) : own_Go p e below K (T.setTop (mkF m pc Ls (.int x :: .int j :: .ref a :: rest))) := by
  obtain ⟨cl, A, q, S, M, H, G⟩ := F
  subst hn; subst hi; subst hv
  obtain ⟨T', h', X', e', W, st⟩ := stC X hx hZ eT A (j := j) (inb_of S hj) (g := mkF m pc Ls (.int x :: .int j :: .ref a :: rest)) rfl rfl hd
  exact own_go st (kk T' h' _ X' e' W (Fr.snoc X' N ge) (Arv.set A q S M H G (fits_nar_char _) W _ rfl hl))
theorem own_stS {K : State → Outcome → Prop} {n0 : Nat} (X : Stand p l e R s m args below meth c T locs cells slots) (hx : p.tables.exec = Jvm.exec) (hZ : Z.Warmed39 s.vm) (eT : T.heap = h) (F : Arv Z h a k .short z vs dv) (j : Int32) (x x' : Int32) (i : Nat) (hj : ¬ j < 0 ∧ j < z) (hi : j.toNatClampNeg = i) (hl : i < vs.length) (hn : nar .short x = x') (vs' : List Value) (hv : vs.set i (.int x') = vs') (N : Fr n0 locs) (ge : n0 ≤ a) {pc : Nat} {Ls : Array Slot} {rest : List Value} (hd : decode c.code pc = .ok (.sastore, 1))
    (kk : ∀ (T' : State) (h' : Heap) (L' : List Loc), Stand p l e R s m args below meth c T' L' cells slots → T'.heap = h' → Wr h h' a i (.int x') → Fr n0 L' → Arv Z h' a k .short z vs' dv → own_Go p e below K (T'.setTop (mkF m (pc + 1) Ls rest))) : own_Go p e below K (T.setTop (mkF m pc Ls (.int x :: .int j :: .ref a :: rest))) := by
  obtain ⟨cl, A, q, S, M, H, G⟩ := F
  subst hn; subst hi; subst hv
  obtain ⟨T', h', X', e', W, st⟩ := stS X hx hZ eT A (j := j) (inb_of S hj) (g := mkF m pc Ls (.int x :: .int j :: .ref a :: rest)) rfl rfl hd
  exact own_go st (kk T' h' _ X' e' W (Fr.snoc X' N ge) (Arv.set A q S M H G (fits_nar_short _) W _ rfl hl))
theorem own_stR {K : State → Outcome → Prop} {n0 : Nat} (X : Stand p l e R s m args below meth c T locs cells slots) (hx : p.tables.exec = Jvm.exec) (hZ : Z.Warmed39 s.vm) (eT : T.heap = h) (F : Arv Z h a k ty z vs dv) (j : Int32) (v : Value) (i : Nat) (hj : ¬ j < 0 ∧ j < z) (hi : j.toNatClampNeg = i) (hl : i < vs.length) (sto : ∀ cl : Cell, Arr Z h a cl ty → cl.cls = k → Sto Z h a v) (hty : ty.isReference = true) (vs' : List Value) (hv : vs.set i v = vs') (N : Fr n0 locs) (ge : n0 ≤ a) {pc : Nat} {Ls : Array Slot} {rest : List Value} (hd : decode c.code pc = .ok (.aastore, 1))
    (kk : ∀ (T' : State) (h' : Heap) (L' : List Loc), Stand p l e R s m args below meth c T' L' cells slots → T'.heap = h' → Wr h h' a i v → Fr n0 L' → Arv Z h' a k ty z vs' dv → own_Go p e below K (T'.setTop (mkF m (pc + 1) Ls rest))) : own_Go p e below K (T.setTop (mkF m pc Ls (v :: .int j :: .ref a :: rest))) := by
  obtain ⟨cl, A, q, S, M, H, G⟩ := F
  subst hi; subst hv
  have so := sto cl A q
  obtain ⟨T', h', X', e', W, st⟩ := stR X hx hZ eT A (j := j) (inb_of S hj) hty so (g := mkF m pc Ls (v :: .int j :: .ref a :: rest)) rfl rfl hd
  have fv : fits ty v = true := by
    rcases so with rfl | ⟨_, _, _, _, _, _, _, y, _, _, _, _, rfl, _⟩ <;> cases ty <;> first | rfl | cases hty
  exact own_go st (kk T' h' _ X' e' W (Fr.snoc X' N ge) (Arv.set A q S M H G fv W _ rfl hl))
end Arrays
section Calls
variable {own : String} {index : Nat} {y z : MethodName} {bytes : ByteArray} {maxL : Nat} {ret : Option FieldType} {rm : Room} {W : Nat} {as' : Array Value} {Z : State} {a0 : Array Value} {h : Heap} {K : State → Outcome → Prop} {pc : Nat} {Ls : Array Slot} {argsL rest stk : List Value} {C : String} {b : Addr}
theorem own_cs (X : Stand p l e R s m args below meth c T locs cells slots) (hx : p.tables.exec = Jvm.exec) (hZ : Z.Warmed39 s.vm) (hown : s.vm.findClass own = some m.cls) (w1 : (Cond.methodLink own index y).before a0 Z = true) (w2 : (Cond.static y).before a0 Z = true) (w3 : (Cond.initialized y.cls).before a0 Z = true) (w4 : (Cond.code y bytes maxL ret).before a0 Z = true)
    (hy : y.cls ≠ "java/lang/invoke/MethodHandle" ∧ y.cls ≠ "java/lang/invoke/VarHandle")
    (hM : MetFree l y (head1 [Cond.code y bytes maxL ret] rm) (fun a U => a = as' ∧ Z.Warmed39 U.vm ∧ U.heap = h) (fun _ _ _ _ _ => True) (fun _ U o U' => ∃ v L, o = .returned v ∧ Q v U'.heap L ∧ FrameEnd U o U' L rm.cells rm.slots))
    (hf : rm.frames + 1 ≤ R.frames) (hl : W + (maxL + 11) + rm.locals ≤ R.locals) (hc : cells + rm.cells ≤ R.cells) (hs : slots + rm.slots ≤ R.slots) (eT : T.heap = h) (hsz : Ls.size = c.maxLocals) (hlen : ∀ sig, parseMethodDescriptor y.desc = some sig → argsL.length = sig.parameters.length)
    (hst : stk = argsL.reverse ++ rest) (has : argsL.toArray = as') (hW : (rest.map fun v => v.category).sum ≤ W) (hd : decode c.code pc = .ok (.invokestatic index, 3))
    (k : ∀ (v : Option Value) (T' : State) (L : List Loc), Stand p l e R s m args below meth c T' (locs ++ L) (cells + rm.cells) (slots + rm.slots) → Q v T'.heap L → own_Go p e below K (T'.setTop (mkF m (pc + 3) Ls (v.toList ++ rest)))) : own_Go p e below K (T.setTop (mkF m pc Ls stk)) := by
  obtain ⟨v, _, ⟨T', L', k', n'⟩, -, X', ⟨L, hQ, h1, h2, h3⟩, st⟩ := Jvm.LawKit.callS X hx (y := y) hown (mvT hZ w1) (mvT hZ w2) (mvT hZ w3) (mvT hZ w4) hy (backOf (W := W) hM hZ w4 w3 hf hl) (g := mkF m pc Ls stk) rfl hsz (argsL := argsL) (rest := rest) hlen hst (by show 2 * 0 + _ ≤ _; simpa using hW) hd (fun _ _ => ⟨has, eT, hc, hs⟩)
  dsimp only [Pt.U, Pt.locs, Pt.cells, Pt.slots] at X' h1 h2 h3 st hQ
  subst h1 h2 h3
  exact own_go st (k v T' L X' hQ)
theorem own_cp (X : Stand p l e R s m args below meth c T locs cells slots) (hx : p.tables.exec = Jvm.exec) (hZ : Z.Warmed39 s.vm) (hown : s.vm.findClass own = some m.cls) (hy1 : y.name = "<init>") (w1 : (Cond.methodLink own index y).before a0 Z = true) (w2 : (Cond.instanceMethod y).before a0 Z = true) (w3 : (Cond.initialized y.cls).before a0 Z = true) (w4 : (Cond.code y bytes maxL none).before a0 Z = true)
    (hy : y.cls ≠ "java/lang/invoke/MethodHandle" ∧ y.cls ≠ "java/lang/invoke/VarHandle")
    (hM : MetFree l y (head1 [Cond.code y bytes maxL none] rm) (fun a U => a = as' ∧ Z.Warmed39 U.vm ∧ U.heap = h) (fun _ _ _ _ _ => True) (fun _ U o U' => ∃ v L, o = .returned v ∧ Q v U'.heap L ∧ FrameEnd U o U' L rm.cells rm.slots))
    (hf : rm.frames + 1 ≤ R.frames) (hl : W + (maxL + 11) + rm.locals ≤ R.locals) (hc : cells + rm.cells ≤ R.cells) (hs : slots + rm.slots ≤ R.slots) (eT : T.heap = h) (hsz : Ls.size = c.maxLocals) (hlen : ∀ sig, parseMethodDescriptor y.desc = some sig → argsL.length = sig.parameters.length)
    (hst : stk = argsL.reverse ++ .ref b :: rest) (has : (.ref b :: argsL).toArray = as') (hW : (rest.map fun v => v.category).sum ≤ W) (hd : decode c.code pc = .ok (.invokespecial index, 3))
    (k : ∀ (v : Option Value) (T' : State) (L : List Loc), Stand p l e R s m args below meth c T' (locs ++ L) (cells + rm.cells) (slots + rm.slots) → Q v T'.heap L → own_Go p e below K (T'.setTop (mkF m (pc + 3) Ls (v.toList ++ rest)))) : own_Go p e below K (T.setTop (mkF m pc Ls stk)) := by
  obtain ⟨v, _, ⟨T', L', k', n'⟩, -, X', ⟨L, hQ, h1, h2, h3⟩, st⟩ := X.specialBack hx (y := y) hy1 hown (mvT hZ w1) (mvT hZ w2) (mvT hZ w4) hy (backOf (W := W) hM hZ w4 w3 hf hl) (g := mkF m pc Ls stk) rfl hsz (Steps.refl _) (a := b) (argsL := argsL) (rest := rest) hlen hst (by show 2 * 0 + _ ≤ _; simpa using hW) hd (fun _ _ => ⟨has, eT, hc, hs⟩)
  dsimp only [Pt.U, Pt.locs, Pt.cells, Pt.slots] at X' h1 h2 h3 st hQ
  subst h1 h2 h3
  exact own_via st (k v T' L X' hQ)
theorem own_cv (X : Stand p l e R s m args below meth c T locs cells slots) (hx : p.tables.exec = Jvm.exec) (hZ : Z.Warmed39 s.vm) (hown : s.vm.findClass own = some m.cls) (nf : NotFace s y) (w1 : (Cond.methodLink own index y).before a0 Z = true) (w2 : (Cond.declares y).before a0 Z = true) (w5 : (Cond.selects C y z).before a0 Z = true) (w6 : (Cond.instanceMethod z).before a0 Z = true) (w3 : (Cond.initialized z.cls).before a0 Z = true) (w4 : (Cond.code z bytes maxL ret).before a0 Z = true)
    (hy : y.cls ≠ "java/lang/invoke/MethodHandle" ∧ y.cls ≠ "java/lang/invoke/VarHandle") (E : Exa Z h b C)
    (hM : MetFree l z (head1 [Cond.code z bytes maxL ret] rm) (fun a U => a = as' ∧ Z.Warmed39 U.vm ∧ U.heap = h) (fun _ _ _ _ _ => True) (fun _ U o U' => ∃ v L, o = .returned v ∧ Q v U'.heap L ∧ FrameEnd U o U' L rm.cells rm.slots))
    (hf : rm.frames + 1 ≤ R.frames) (hl : W + (maxL + 11) + rm.locals ≤ R.locals) (hc : cells + rm.cells ≤ R.cells) (hs : slots + rm.slots ≤ R.slots) (eT : T.heap = h) (hsz : Ls.size = c.maxLocals) (hlen : ∀ sig, parseMethodDescriptor y.desc = some sig → argsL.length = sig.parameters.length)
    (hst : stk = argsL.reverse ++ .ref b :: rest) (has : (.ref b :: argsL).toArray = as') (hW : (rest.map fun v => v.category).sum ≤ W) (hd : decode c.code pc = .ok (.invokevirtual index, 3))
    (k : ∀ (v : Option Value) (T' : State) (L : List Loc), Stand p l e R s m args below meth c T' (locs ++ L) (cells + rm.cells) (slots + rm.slots) → Q v T'.heap L → own_Go p e below K (T'.setTop (mkF m (pc + 3) Ls (v.toList ++ rest)))) : own_Go p e below K (T.setTop (mkF m pc Ls stk)) := by
  obtain ⟨cq, kq, qa, qb, qc⟩ := isOf hZ eT E
  obtain ⟨v, _, ⟨T', L', k', n'⟩, -, X', ⟨L, hQ, h1, h2, h3⟩, st⟩ := X.virtualBack hx (y := y) (z := z) hown (mvT hZ w1) (mvT hZ w2) nf (mvT hZ w5) (mvT hZ w6) hy (backOf (W := W) hM hZ w4 w3 hf hl) qa qc (g := mkF m pc Ls stk) rfl hsz (Steps.refl _) (argsL := argsL) (rest := rest) hlen hst (by show 2 * 0 + _ ≤ _; simpa using hW) hd (fun _ _ => ⟨has, eT, hc, hs⟩)
  dsimp only [Pt.U, Pt.locs, Pt.cells, Pt.slots] at X' h1 h2 h3 st hQ
  subst h1 h2 h3
  exact own_via st (k v T' L X' hQ)
theorem own_cq (X : Stand p l e R s m args below meth c T locs cells slots) (hx : p.tables.exec = Jvm.exec) (hZ : Z.Warmed39 s.vm) (hown : s.vm.findClass own = some m.cls) (w1 : (Cond.methodLink own index y).before a0 Z = true) (w6 : (Cond.instanceMethod y).before a0 Z = true) (w5 : (Cond.selects y.cls y y).before a0 Z = true) (w7 : (Cond.privateMethod y).before a0 Z = true) (w3 : (Cond.initialized y.cls).before a0 Z = true) (w4 : (Cond.code y bytes maxL ret).before a0 Z = true)
    (hy : y.cls ≠ "java/lang/invoke/MethodHandle" ∧ y.cls ≠ "java/lang/invoke/VarHandle") (E : Exa Z h b C)
    (hM : MetFree l y (head1 [Cond.code y bytes maxL ret] rm) (fun a U => a = as' ∧ Z.Warmed39 U.vm ∧ U.heap = h) (fun _ _ _ _ _ => True) (fun _ U o U' => ∃ v L, o = .returned v ∧ Q v U'.heap L ∧ FrameEnd U o U' L rm.cells rm.slots))
    (hf : rm.frames + 1 ≤ R.frames) (hl : W + (maxL + 11) + rm.locals ≤ R.locals) (hc : cells + rm.cells ≤ R.cells) (hs : slots + rm.slots ≤ R.slots) (eT : T.heap = h) (hsz : Ls.size = c.maxLocals) (hlen : ∀ sig, parseMethodDescriptor y.desc = some sig → argsL.length = sig.parameters.length)
    (hst : stk = argsL.reverse ++ .ref b :: rest) (has : (.ref b :: argsL).toArray = as') (hW : (rest.map fun v => v.category).sum ≤ W) (hd : decode c.code pc = .ok (.invokevirtual index, 3))
    (k : ∀ (v : Option Value) (T' : State) (L : List Loc), Stand p l e R s m args below meth c T' (locs ++ L) (cells + rm.cells) (slots + rm.slots) → Q v T'.heap L → own_Go p e below K (T'.setTop (mkF m (pc + 3) Ls (v.toList ++ rest)))) : own_Go p e below K (T.setTop (mkF m pc Ls stk)) := by
  obtain ⟨cq, q1, q2⟩ := E.cell
  obtain ⟨v, _, ⟨T', L', k', n'⟩, -, X', ⟨L, hQ, h1, h2, h3⟩, st⟩ := X.privateBack hx (y := y) hown (mvT hZ w1) (mvT hZ w6) (mvT hZ w5) (Cond.privateMethod_at (mvP hZ w7 (args := #[]))) (mvT hZ w4) hy (backOf (W := W) hM hZ w4 w3 hf hl) (g := mkF m pc Ls stk) rfl hsz (Steps.refl _) (a := b) (by rw [eT]; exact q1) q2 (argsL := argsL) (rest := rest) hlen hst (by show 2 * 0 + _ ≤ _; simpa using hW) hd (fun _ _ => ⟨has, eT, hc, hs⟩)
  dsimp only [Pt.U, Pt.locs, Pt.cells, Pt.slots] at X' h1 h2 h3 st hQ
  subst h1 h2 h3
  exact own_via st (k v T' L X' hQ)
theorem own_cu {owner : String} (X : Stand p l e R s m args below meth c T locs cells slots) (hx : p.tables.exec = Jvm.exec) (hZ : Z.Warmed39 s.vm) (hown : s.vm.findClass own = some m.cls) (w1 : (Cond.methodLink own index y).before a0 Z = true) (w8 : (Cond.sameMethod y.cls owner y.name y.desc).before a0 Z = true) (w2 : (Cond.declares ⟨owner, y.name, y.desc⟩).before a0 Z = true) (w5 : (Cond.selects C y z).before a0 Z = true) (w6 : (Cond.instanceMethod z).before a0 Z = true) (w3 : (Cond.initialized z.cls).before a0 Z = true) (w4 : (Cond.code z bytes maxL ret).before a0 Z = true)
    (hy : owner ≠ "java/lang/invoke/MethodHandle" ∧ owner ≠ "java/lang/invoke/VarHandle") (E : Exa Z h b C)
    (hM : MetFree l z (head1 [Cond.code z bytes maxL ret] rm) (fun a U => a = as' ∧ Z.Warmed39 U.vm ∧ U.heap = h) (fun _ _ _ _ _ => True) (fun _ U o U' => ∃ v L, o = .returned v ∧ Q v U'.heap L ∧ FrameEnd U o U' L rm.cells rm.slots))
    (hf : rm.frames + 1 ≤ R.frames) (hl : W + (maxL + 11) + rm.locals ≤ R.locals) (hc : cells + rm.cells ≤ R.cells) (hs : slots + rm.slots ≤ R.slots) (eT : T.heap = h) (hsz : Ls.size = c.maxLocals) (hlen : ∀ sig, parseMethodDescriptor y.desc = some sig → argsL.length = sig.parameters.length)
    (hst : stk = argsL.reverse ++ .ref b :: rest) (has : (.ref b :: argsL).toArray = as') (hW : (rest.map fun v => v.category).sum ≤ W) (hd : decode c.code pc = .ok (.invokevirtual index, 3))
    (k : ∀ (v : Option Value) (T' : State) (L : List Loc), Stand p l e R s m args below meth c T' (locs ++ L) (cells + rm.cells) (slots + rm.slots) → Q v T'.heap L → own_Go p e below K (T'.setTop (mkF m (pc + 3) Ls (v.toList ++ rest)))) : own_Go p e below K (T.setTop (mkF m pc Ls stk)) := by
  obtain ⟨cq, kq, qa, qb, qc⟩ := isOf hZ eT E
  obtain ⟨v, _, ⟨T', L', k', n'⟩, -, X', ⟨L, hQ, h1, h2, h3⟩, st⟩ := X.virtualBackUp hx (x := y) (y := z) (owner := owner) hown (mvT hZ w1) (mvT hZ w8) (mvT hZ w2) hy (mvT hZ w5) (mvT hZ w6) (backOf (W := W) hM hZ w4 w3 hf hl) qa qc (g := mkF m pc Ls stk) rfl hsz (Steps.refl _) (argsL := argsL) (rest := rest) hlen hst (by show 2 * 0 + _ ≤ _; simpa using hW) hd (fun _ _ => ⟨has, eT, hc, hs⟩)
  dsimp only [Pt.U, Pt.locs, Pt.cells, Pt.slots] at X' h1 h2 h3 st hQ
  subst h1 h2 h3
  exact own_via st (k v T' L X' hQ)
end Calls
theorem own_fld_eq {Z : State} {h : Heap} {a : Addr} {C n d : String} {v w : Value} (F : Fld Z h a C n d v) (G : Fld Z h a C n d w) : v = w := Classical.byContradiction fun q => Fld.ne F G q rfl
theorem own_nsroot {Z : State} {a0 : Array Value} {O K : String} {n : Nat} (w : (Cond.noSuperclass O).before a0 Z = true) (wk : (Cond.instantiable K n).before a0 Z = true) (hn : O ≠ K) : NS Z O K := by
  obtain ⟨c, k, h1, h2, h3, -, -⟩ := Cond.noSuperclass_spec w
  obtain ⟨t, kt, g1, -⟩ := Cond.instantiable_spec wk
  have ne := ids_ne h1 g1 hn
  refine ⟨c, t, h1, g1, fun fuel => ?_⟩
  cases fuel with
  | zero => rfl
  | succ f => simp [Vm.isSubclassAux, ne, h2, h3]
theorem own_nsno {Z : State} {a0 : Array Value} {C S K : String} {n : Nat} (w : (Cond.superclass C S).before a0 Z = true) (wk : (Cond.instantiable K n).before a0 Z = true) (nn : NS Z C K) (hn : C ≠ K) : ∃ c t, Z.vm.findClass C = some c ∧ Z.vm.findClass K = some t ∧ Z.vm.assignable c t = false := by
  obtain ⟨c, t, h0, g0, n3⟩ := nn
  obtain ⟨p, k, kp, h1, h2, h3, h4, h5, -, h7⟩ := Cond.superclass_spec h0 w
  obtain ⟨t', kt, g1, g2, g5, g6, -⟩ := Cond.instantiable_spec wk
  cases g0.symm.trans g1
  have g7 : kt.isInterface = false := by simp only [Bool.or_eq_false_iff] at g6; exact g6.1
  have ne := ids_ne h0 g0 hn
  refine ⟨c, t, h0, g0, ?_⟩
  show Z.vm.assignableAux (255 + 1) c t = false
  simp [Vm.assignableAux, ne, h2, g2, h5, g5, g7, Vm.isSubclass, n3]
theorem own_ns_exa {Z : State} {h : Heap} {a : Addr} {C : String} (F : Exa Z h a C) : ∀ cell : Cell, h[a]? = some cell → cell.vm.isStatics = false := fun cell hc => by
  obtain ⟨c, _, h1, -, -, h4, -⟩ := F; cases h1.symm.trans hc; exact h4
theorem own_ns_arv {Z : State} {h : Heap} {a : Addr} {k : ClassId} {ty : FieldType} {z : Int32} {vs : List Value} {dv : Value} (F : Arv Z h a k ty z vs dv) : ∀ cell : Cell, h[a]? = some cell → cell.vm.isStatics = false := fun cell hc => by
  obtain ⟨c, A, -⟩ := F; cases A.1.symm.trans hc; exact A.plain
theorem own_sta_keep {Z : State} {h h' : Heap} {C f d : String} {v : Value} {ws : List Addr} (F : Sta Z h C f d v) (K : Keep h h' ws) (q : ∀ x ∈ ws, ∀ cell : Cell, h[x]? = some cell → cell.vm.isStatics = false) : Sta Z h' C f d v := by
  obtain ⟨cf, i, k, fl, st, cell, h1, h2, h3, h4, h5, h6, h7⟩ := F
  exact ⟨cf, i, k, fl, st, cell, h1, h2, h3, h4, K.2.1 _ _ h5 (fun hm => by rw [q _ hm _ h5] at h6; cases h6), h6, h7⟩
end Own
end Jvm.RoadKit
namespace Jvm.Pilot.@@N@@
open Jvm Jvm.ClassFile Sem Op Lib Jvm.Free Jvm.Stand Jvm.LawKit Jvm.RoadKit Bundle Jvm.Pilot.@@N@@.Jvm.D
theorem own_m (i : Nat) {d : Jvm.Cond} (h : tables_1[i]? = some d) : d ∈ tables_1 := List.mem_of_getElem? h
theorem own_eq_int {args : Array Value} {s first : State} {o : Option Outcome} {idx : List Nat} {t : Term} {k : Int32} (h : (Cond.eq t (.int k)).value args first o s idx = some true) : t.eval args first o idx s = some (.int k) := by
  obtain ⟨x, y, h1, h2, h3, h4⟩ := cmp_v (r := true) (Or.inl h)
  have e2 : y = .int k := (Option.some.inj h2).symm
  subst e2
  obtain ⟨z, rfl⟩ := h4
  have q := h
  simp only [Cond.value, h1, h2] at q
  have : z = k := by simpa using q
  rw [h1, this]
theorem own_eq_ref {args : Array Value} {s first : State} {o : Option Outcome} {idx : List Nat} {t u : Term} {a : Addr} (hu : u.eval args first o idx s = some (.ref a)) (h : (Cond.eq t u).value args first o s idx = some true) : t.eval args first o idx s = some (.ref a) := by
  obtain ⟨x, y, h1, h2, h3, h4⟩ := cmp_v (r := true) (Or.inl h)
  cases hu.symm.trans h2
  have q := h
  simp only [Cond.value, h1, h2] at q
  cases x <;> simp [Kin, Value.isRef] at h3 h4 q ⊢
  rw [h1, q]
theorem own_mod13 (x : Int32) : (x &&& 2147483647) % 13 = 0 ∨ (x &&& 2147483647) % 13 = 1 ∨ (x &&& 2147483647) % 13 = 2 ∨ (x &&& 2147483647) % 13 = 3 ∨ (x &&& 2147483647) % 13 = 4 ∨ (x &&& 2147483647) % 13 = 5 ∨ (x &&& 2147483647) % 13 = 6 ∨ (x &&& 2147483647) % 13 = 7 ∨ (x &&& 2147483647) % 13 = 8 ∨ (x &&& 2147483647) % 13 = 9 ∨ (x &&& 2147483647) % 13 = 10 ∨ (x &&& 2147483647) % 13 = 11 ∨ (x &&& 2147483647) % 13 = 12 := by
  have e : (x &&& 2147483647).toInt = x.toInt % (2 ^ 31 : Nat) := c_mask x 2147483647 31 (by decide) (by decide)
  have r := (c_irem (x &&& 2147483647) 13 13 (by decide)).1 (by omega)
  simp only [← Int32.toInt_inj, Int32.reduceToInt] at r ⊢; omega
def own_l0 (c : Int32) : Int32 := if c = 10 then 1 else if c = 13 then 1 else 0
def own_l1 (c : Int32) : Int32 := if c = 10 then 1 else if c = 13 then 1 else if c = 133 then 1 else if c = 8232 then 1 else 0

theorem own_d_prog_20_method_6_code_0 : decode prog_20_method_6_code 0 = .ok (.iload_n 1, 1) := by decide +kernel
theorem own_d_prog_20_method_6_code_1 : decode prog_20_method_6_code 1 = .ok (.bipush 10, 2) := by decide +kernel
theorem own_d_prog_20_method_6_code_3 : decode prog_20_method_6_code 3 = .ok (.if_icmp .eq 30, 3) := by decide +kernel
theorem own_d_prog_20_method_6_code_33 : decode prog_20_method_6_code 33 = .ok (.iconst 1, 1) := by decide +kernel
theorem own_d_prog_20_method_6_code_34 : decode prog_20_method_6_code 34 = .ok (.goto 4, 3) := by decide +kernel
theorem own_d_prog_20_method_6_code_38 : decode prog_20_method_6_code 38 = .ok (.ireturn, 1) := by decide +kernel
theorem own_d_prog_20_method_6_code_6 : decode prog_20_method_6_code 6 = .ok (.iload_n 1, 1) := by decide +kernel
theorem own_d_prog_20_method_6_code_7 : decode prog_20_method_6_code 7 = .ok (.bipush 13, 2) := by decide +kernel
theorem own_d_prog_20_method_6_code_9 : decode prog_20_method_6_code 9 = .ok (.if_icmp .eq 24, 3) := by decide +kernel
theorem own_d_prog_20_method_6_code_12 : decode prog_20_method_6_code 12 = .ok (.aload_n 0, 1) := by decide +kernel
theorem own_d_prog_20_method_6_code_13 : decode prog_20_method_6_code 13 = .ok (.getstatic 7, 3) := by decide +kernel
theorem own_d_prog_20_method_6_code_16 : decode prog_20_method_6_code 16 = .ok (.if_acmp .ne 21, 3) := by decide +kernel
theorem own_d_prog_20_method_6_code_37 : decode prog_20_method_6_code 37 = .ok (.iconst 0, 1) := by decide +kernel
theorem own_pn_com_example_fitzroy_fitzroy_XmlVersion : plainName "com/example/fitzroy/fitzroy/XmlVersion" = true := by first | (simp [plainName, overriddenIn]; done) | decide +kernel
def Q_l0 (Z : State) (c0 : Int32) (h0 : Heap) (n0 : Nat) (v : Option Value) (h : Heap) (L : List Loc) : Prop := v = some (.int (own_l0 c0)) ∧ Fr n0 L ∧ h = h0
set_option maxRecDepth 65536 in
set_option maxHeartbeats 40000000 in
theorem rm_l0 (l : Launch) (Z : State) (a0 : Array Value) (hw : ∀ d ∈ tables_1, d.before a0 Z = true) (ws : List Jvm.Cond) (c0 : Int32) (r_V1_0 : Addr) (r_V1_1 : Addr) (h0 : Heap) (n0 : Nat) (Z0 : n0 ≤ h0.size) (S_V1_0 : Sta Z h0 "com/example/fitzroy/fitzroy/XmlVersion" "V1_0" "Lcom/example/fitzroy/fitzroy/XmlVersion;" (.ref r_V1_0)) (E_V1_0 : Exa Z h0 r_V1_0 "com/example/fitzroy/fitzroy/XmlVersion") (S_V1_1 : Sta Z h0 "com/example/fitzroy/fitzroy/XmlVersion" "V1_1" "Lcom/example/fitzroy/fitzroy/XmlVersion;" (.ref r_V1_1)) (E_V1_1 : Exa Z h0 r_V1_1 "com/example/fitzroy/fitzroy/XmlVersion") (ne_V1_0_V1_1 : r_V1_0 ≠ r_V1_1) :
    MetFree l (⟨"com/example/fitzroy/fitzroy/XmlVersion", "endsLine", "(I)Z"⟩ : MethodName) (head1 (Jvm.Cond.code (⟨"com/example/fitzroy/fitzroy/XmlVersion", "endsLine", "(I)Z"⟩ : MethodName) prog_20_method_6_code 2 (some .boolean) :: ws) ({ frames := 0, cells := 0, slots := 0, locals := 0 } : Room)) (fun aA U => aA = #[(.ref r_V1_0), (.int c0)] ∧ Z.Warmed39 U.vm ∧ U.heap = h0) (fun _ _ _ _ _ => True) (fun _ U o U' => ∃ v L, o = .returned v ∧ Q_l0 Z c0 h0 n0 v U'.heap L ∧ FrameEnd U o U' L ({ frames := 0, cells := 0, slots := 0, locals := 0 } : Room).cells ({ frames := 0, cells := 0, slots := 0, locals := 0 } : Room).slots) := by
  refine MetFree.of_bodySF (plainFor_of_name own_pn_com_example_fitzroy_fitzroy_XmlVersion) hisR ?_
  intro p e s m args below meth c s₁ Bd hml0 hP hK
  obtain ⟨rfl, hZ, hh⟩ := hP
  have hx := Bd.exec
  have hby := Bd.bytes
  have hlk : meth.locks = false := BodyLoose.notSynchronized Bd
  have hml : c.maxLocals = 2 := hml0
  have hown : s.vm.findClass "com/example/fitzroy/fitzroy/XmlVersion" = some m.cls := findClass_of_methodNamed Bd.named
  have hnm := (name_of_methodNamed Bd.named Bd.method).1
  have X0 : Stand p l e ({ frames := 0, cells := 0, slots := 0, locals := 0 } : Room) s m #[(.ref r_V1_0), (.int c0)] below meth c s₁ [] 0 0 := Stand.of_body Bd
  have e0 : s₁.heap = h0 := by rw [← hh, Bd.state]; rfl
  have N0 := Fr.nil n0
  show own_Go p e below (own_K s (Q_l0 Z c0 h0 n0) ({ frames := 0, cells := 0, slots := 0, locals := 0 } : Room).cells ({ frames := 0, cells := 0, slots := 0, locals := 0 } : Room).slots) (s₁.setTop (entryFrame m #[(.ref r_V1_0), (.int c0)] 2))
  rw [(by first | (simp [entryFrame, mkF, argsToLocals, Value.category]; done) | rfl : entryFrame m #[(.ref r_V1_0), (.int c0)] 2 = mkF m 0 #[.val (.ref r_V1_0), .val (.int c0)] [])]
  show own_Go p e below _ (s₁.setTop (mkF m 0 #[.val (.ref r_V1_0), .val (.int c0)] []))
  refine own_go (fun _ hr => XS.iloadN X0.here hx rfl (hb hby own_d_prog_20_method_6_code_0) rfl (XS.bipush X0.here hx rfl (hb hby own_d_prog_20_method_6_code_1) hr)) ?_
  show own_Go p e below _ (s₁.setTop (mkF m 3 #[.val (.ref r_V1_0), .val (.int c0)] [(.int (10 : Int32)), (.int c0)]))
  by_cases c1 : c0 = (10 : Int32)
  · refine own_go (fun _ hr => XS.icmpYes X0.here hx rfl (pc0 := 3) (pc' := 33) rfl (hb hby own_d_prog_20_method_6_code_3) rfl (teq c1).1 (by decide) (by decide) hr) ?_
    show own_Go p e below _ (s₁.setTop (mkF m 33 #[.val (.ref r_V1_0), .val (.int c0)] []))
    refine own_go (fun _ hr => XS.iconst X0.here hx rfl (hb hby own_d_prog_20_method_6_code_33) (XS.goto X0.here hx rfl (pc0 := 34) (pc' := 38) rfl (hb hby own_d_prog_20_method_6_code_34) (by decide) (by decide) hr)) ?_
    show own_Go p e below _ (s₁.setTop (mkF m 38 #[.val (.ref r_V1_0), .val (.int c0)] [(.int (1 : Int32))]))
    exact own_retN X0 hx hlk Bd.returns (t := .boolean) (by simp) (hb hby own_d_prog_20_method_6_code_38) (by decide) (by decide) ⟨(show some (Value.int (1 : Int32)) = some (Value.int (own_l0 c0)) by simp [own_l0, c1]), N0, e0⟩
  refine own_go (fun _ hr => XS.icmpNo X0.here hx rfl (hb hby own_d_prog_20_method_6_code_3) rfl (feq c1).1 hr) ?_
  show own_Go p e below _ (s₁.setTop (mkF m 6 #[.val (.ref r_V1_0), .val (.int c0)] []))
  refine own_go (fun _ hr => XS.iloadN X0.here hx rfl (hb hby own_d_prog_20_method_6_code_6) rfl (XS.bipush X0.here hx rfl (hb hby own_d_prog_20_method_6_code_7) hr)) ?_
  show own_Go p e below _ (s₁.setTop (mkF m 9 #[.val (.ref r_V1_0), .val (.int c0)] [(.int (13 : Int32)), (.int c0)]))
  by_cases c2 : c0 = (13 : Int32)
  · refine own_go (fun _ hr => XS.icmpYes X0.here hx rfl (pc0 := 9) (pc' := 33) rfl (hb hby own_d_prog_20_method_6_code_9) rfl (teq c2).1 (by decide) (by decide) hr) ?_
    show own_Go p e below _ (s₁.setTop (mkF m 33 #[.val (.ref r_V1_0), .val (.int c0)] []))
    refine own_go (fun _ hr => XS.iconst X0.here hx rfl (hb hby own_d_prog_20_method_6_code_33) (XS.goto X0.here hx rfl (pc0 := 34) (pc' := 38) rfl (hb hby own_d_prog_20_method_6_code_34) (by decide) (by decide) hr)) ?_
    show own_Go p e below _ (s₁.setTop (mkF m 38 #[.val (.ref r_V1_0), .val (.int c0)] [(.int (1 : Int32))]))
    exact own_retN X0 hx hlk Bd.returns (t := .boolean) (by simp) (hb hby own_d_prog_20_method_6_code_38) (by decide) (by decide) ⟨(show some (Value.int (1 : Int32)) = some (Value.int (own_l0 c0)) by simp [own_l0, c1, c2]), N0, e0⟩
  refine own_go (fun _ hr => XS.icmpNo X0.here hx rfl (hb hby own_d_prog_20_method_6_code_9) rfl (feq c2).1 hr) ?_
  show own_Go p e below _ (s₁.setTop (mkF m 12 #[.val (.ref r_V1_0), .val (.int c0)] []))
  refine own_go (fun _ hr => XS.aloadN X0.here hx rfl (hb hby own_d_prog_20_method_6_code_12) rfl rfl hr) ?_
  show own_Go p e below _ (s₁.setTop (mkF m 13 #[.val (.ref r_V1_0), .val (.int c0)] [(.ref r_V1_0)]))
  obtain ⟨T3, X3, e3, st3⟩ := getS2 X0 hx hZ hown (host := "") (Or.inl (hw _ (own_m 10 rfl))) Via.refl e0 S_V1_1 (g := (mkF m 13 #[.val (.ref r_V1_0), .val (.int c0)] [(.ref r_V1_0)])) rfl (hb hby own_d_prog_20_method_6_code_13)
  refine own_go st3 ?_
  show own_Go p e below _ (T3.setTop (mkF m 16 #[.val (.ref r_V1_0), .val (.int c0)] [(.ref r_V1_1), (.ref r_V1_0)]))
  refine own_go (fun _ hr => Jvm.RoadKit.acmp X3 hx rfl rfl rfl (pc0 := 16) (pc' := 37) (same := false) rfl (hb hby own_d_prog_20_method_6_code_16) rfl (decide_eq_false fun q => ne_V1_0_V1_1 (Value.ref.inj q)) (by decide) (by decide) hr) ?_
  show own_Go p e below _ (T3.setTop (mkF m 37 #[.val (.ref r_V1_0), .val (.int c0)] []))
  refine own_go (fun _ hr => XS.iconst X3.here hx rfl (hb hby own_d_prog_20_method_6_code_37) hr) ?_
  show own_Go p e below _ (T3.setTop (mkF m 38 #[.val (.ref r_V1_0), .val (.int c0)] [(.int (0 : Int32))]))
  exact own_retN X3 hx hlk Bd.returns (t := .boolean) (by simp) (hb hby own_d_prog_20_method_6_code_38) (by decide) (by decide) ⟨(show some (Value.int (0 : Int32)) = some (Value.int (own_l0 c0)) by simp [own_l0, c1, c2]), N0, e3⟩
theorem own_d_prog_20_method_6_code_19 : decode prog_20_method_6_code 19 = .ok (.iload_n 1, 1) := by decide +kernel
theorem own_d_prog_20_method_6_code_20 : decode prog_20_method_6_code 20 = .ok (.sipush 133, 3) := by decide +kernel
theorem own_d_prog_20_method_6_code_23 : decode prog_20_method_6_code 23 = .ok (.if_icmp .eq 10, 3) := by decide +kernel
theorem own_d_prog_20_method_6_code_26 : decode prog_20_method_6_code 26 = .ok (.iload_n 1, 1) := by decide +kernel
theorem own_d_prog_20_method_6_code_27 : decode prog_20_method_6_code 27 = .ok (.sipush 8232, 3) := by decide +kernel
theorem own_d_prog_20_method_6_code_30 : decode prog_20_method_6_code 30 = .ok (.if_icmp .ne 7, 3) := by decide +kernel
def Q_l1 (Z : State) (c0 : Int32) (h0 : Heap) (n0 : Nat) (v : Option Value) (h : Heap) (L : List Loc) : Prop := v = some (.int (own_l1 c0)) ∧ Fr n0 L ∧ h = h0
set_option maxRecDepth 65536 in
set_option maxHeartbeats 40000000 in
theorem rm_l1 (l : Launch) (Z : State) (a0 : Array Value) (hw : ∀ d ∈ tables_1, d.before a0 Z = true) (ws : List Jvm.Cond) (c0 : Int32) (r_V1_0 : Addr) (r_V1_1 : Addr) (h0 : Heap) (n0 : Nat) (Z0 : n0 ≤ h0.size) (S_V1_0 : Sta Z h0 "com/example/fitzroy/fitzroy/XmlVersion" "V1_0" "Lcom/example/fitzroy/fitzroy/XmlVersion;" (.ref r_V1_0)) (E_V1_0 : Exa Z h0 r_V1_0 "com/example/fitzroy/fitzroy/XmlVersion") (S_V1_1 : Sta Z h0 "com/example/fitzroy/fitzroy/XmlVersion" "V1_1" "Lcom/example/fitzroy/fitzroy/XmlVersion;" (.ref r_V1_1)) (E_V1_1 : Exa Z h0 r_V1_1 "com/example/fitzroy/fitzroy/XmlVersion") (ne_V1_0_V1_1 : r_V1_0 ≠ r_V1_1) :
    MetFree l (⟨"com/example/fitzroy/fitzroy/XmlVersion", "endsLine", "(I)Z"⟩ : MethodName) (head1 (Jvm.Cond.code (⟨"com/example/fitzroy/fitzroy/XmlVersion", "endsLine", "(I)Z"⟩ : MethodName) prog_20_method_6_code 2 (some .boolean) :: ws) ({ frames := 0, cells := 0, slots := 0, locals := 0 } : Room)) (fun aA U => aA = #[(.ref r_V1_1), (.int c0)] ∧ Z.Warmed39 U.vm ∧ U.heap = h0) (fun _ _ _ _ _ => True) (fun _ U o U' => ∃ v L, o = .returned v ∧ Q_l1 Z c0 h0 n0 v U'.heap L ∧ FrameEnd U o U' L ({ frames := 0, cells := 0, slots := 0, locals := 0 } : Room).cells ({ frames := 0, cells := 0, slots := 0, locals := 0 } : Room).slots) := by
  refine MetFree.of_bodySF (plainFor_of_name own_pn_com_example_fitzroy_fitzroy_XmlVersion) hisR ?_
  intro p e s m args below meth c s₁ Bd hml0 hP hK
  obtain ⟨rfl, hZ, hh⟩ := hP
  have hx := Bd.exec
  have hby := Bd.bytes
  have hlk : meth.locks = false := BodyLoose.notSynchronized Bd
  have hml : c.maxLocals = 2 := hml0
  have hown : s.vm.findClass "com/example/fitzroy/fitzroy/XmlVersion" = some m.cls := findClass_of_methodNamed Bd.named
  have hnm := (name_of_methodNamed Bd.named Bd.method).1
  have X0 : Stand p l e ({ frames := 0, cells := 0, slots := 0, locals := 0 } : Room) s m #[(.ref r_V1_1), (.int c0)] below meth c s₁ [] 0 0 := Stand.of_body Bd
  have e0 : s₁.heap = h0 := by rw [← hh, Bd.state]; rfl
  have N0 := Fr.nil n0
  show own_Go p e below (own_K s (Q_l1 Z c0 h0 n0) ({ frames := 0, cells := 0, slots := 0, locals := 0 } : Room).cells ({ frames := 0, cells := 0, slots := 0, locals := 0 } : Room).slots) (s₁.setTop (entryFrame m #[(.ref r_V1_1), (.int c0)] 2))
  rw [(by first | (simp [entryFrame, mkF, argsToLocals, Value.category]; done) | rfl : entryFrame m #[(.ref r_V1_1), (.int c0)] 2 = mkF m 0 #[.val (.ref r_V1_1), .val (.int c0)] [])]
  show own_Go p e below _ (s₁.setTop (mkF m 0 #[.val (.ref r_V1_1), .val (.int c0)] []))
  refine own_go (fun _ hr => XS.iloadN X0.here hx rfl (hb hby own_d_prog_20_method_6_code_0) rfl (XS.bipush X0.here hx rfl (hb hby own_d_prog_20_method_6_code_1) hr)) ?_
  show own_Go p e below _ (s₁.setTop (mkF m 3 #[.val (.ref r_V1_1), .val (.int c0)] [(.int (10 : Int32)), (.int c0)]))
  by_cases c1 : c0 = (10 : Int32)
  · refine own_go (fun _ hr => XS.icmpYes X0.here hx rfl (pc0 := 3) (pc' := 33) rfl (hb hby own_d_prog_20_method_6_code_3) rfl (teq c1).1 (by decide) (by decide) hr) ?_
    show own_Go p e below _ (s₁.setTop (mkF m 33 #[.val (.ref r_V1_1), .val (.int c0)] []))
    refine own_go (fun _ hr => XS.iconst X0.here hx rfl (hb hby own_d_prog_20_method_6_code_33) (XS.goto X0.here hx rfl (pc0 := 34) (pc' := 38) rfl (hb hby own_d_prog_20_method_6_code_34) (by decide) (by decide) hr)) ?_
    show own_Go p e below _ (s₁.setTop (mkF m 38 #[.val (.ref r_V1_1), .val (.int c0)] [(.int (1 : Int32))]))
    exact own_retN X0 hx hlk Bd.returns (t := .boolean) (by simp) (hb hby own_d_prog_20_method_6_code_38) (by decide) (by decide) ⟨(show some (Value.int (1 : Int32)) = some (Value.int (own_l1 c0)) by simp [own_l1, c1]), N0, e0⟩
  refine own_go (fun _ hr => XS.icmpNo X0.here hx rfl (hb hby own_d_prog_20_method_6_code_3) rfl (feq c1).1 hr) ?_
  show own_Go p e below _ (s₁.setTop (mkF m 6 #[.val (.ref r_V1_1), .val (.int c0)] []))
  refine own_go (fun _ hr => XS.iloadN X0.here hx rfl (hb hby own_d_prog_20_method_6_code_6) rfl (XS.bipush X0.here hx rfl (hb hby own_d_prog_20_method_6_code_7) hr)) ?_
  show own_Go p e below _ (s₁.setTop (mkF m 9 #[.val (.ref r_V1_1), .val (.int c0)] [(.int (13 : Int32)), (.int c0)]))
  by_cases c2 : c0 = (13 : Int32)
  · refine own_go (fun _ hr => XS.icmpYes X0.here hx rfl (pc0 := 9) (pc' := 33) rfl (hb hby own_d_prog_20_method_6_code_9) rfl (teq c2).1 (by decide) (by decide) hr) ?_
    show own_Go p e below _ (s₁.setTop (mkF m 33 #[.val (.ref r_V1_1), .val (.int c0)] []))
    refine own_go (fun _ hr => XS.iconst X0.here hx rfl (hb hby own_d_prog_20_method_6_code_33) (XS.goto X0.here hx rfl (pc0 := 34) (pc' := 38) rfl (hb hby own_d_prog_20_method_6_code_34) (by decide) (by decide) hr)) ?_
    show own_Go p e below _ (s₁.setTop (mkF m 38 #[.val (.ref r_V1_1), .val (.int c0)] [(.int (1 : Int32))]))
    exact own_retN X0 hx hlk Bd.returns (t := .boolean) (by simp) (hb hby own_d_prog_20_method_6_code_38) (by decide) (by decide) ⟨(show some (Value.int (1 : Int32)) = some (Value.int (own_l1 c0)) by simp [own_l1, c1, c2]), N0, e0⟩
  refine own_go (fun _ hr => XS.icmpNo X0.here hx rfl (hb hby own_d_prog_20_method_6_code_9) rfl (feq c2).1 hr) ?_
  show own_Go p e below _ (s₁.setTop (mkF m 12 #[.val (.ref r_V1_1), .val (.int c0)] []))
  refine own_go (fun _ hr => XS.aloadN X0.here hx rfl (hb hby own_d_prog_20_method_6_code_12) rfl rfl hr) ?_
  show own_Go p e below _ (s₁.setTop (mkF m 13 #[.val (.ref r_V1_1), .val (.int c0)] [(.ref r_V1_1)]))
  obtain ⟨T3, X3, e3, st3⟩ := getS2 X0 hx hZ hown (host := "") (Or.inl (hw _ (own_m 10 rfl))) Via.refl e0 S_V1_1 (g := (mkF m 13 #[.val (.ref r_V1_1), .val (.int c0)] [(.ref r_V1_1)])) rfl (hb hby own_d_prog_20_method_6_code_13)
  refine own_go st3 ?_
  show own_Go p e below _ (T3.setTop (mkF m 16 #[.val (.ref r_V1_1), .val (.int c0)] [(.ref r_V1_1), (.ref r_V1_1)]))
  refine own_go (fun _ hr => Jvm.RoadKit.acmp X3 hx rfl rfl rfl (pc0 := 16) (pc' := 19) (same := true) rfl (hb hby own_d_prog_20_method_6_code_16) rfl (decide_eq_true rfl) (by decide) (by decide) hr) ?_
  show own_Go p e below _ (T3.setTop (mkF m 19 #[.val (.ref r_V1_1), .val (.int c0)] []))
  refine own_go (fun _ hr => XS.iloadN X3.here hx rfl (hb hby own_d_prog_20_method_6_code_19) rfl (XS.sipush X3.here hx rfl (hb hby own_d_prog_20_method_6_code_20) hr)) ?_
  show own_Go p e below _ (T3.setTop (mkF m 23 #[.val (.ref r_V1_1), .val (.int c0)] [(.int (133 : Int32)), (.int c0)]))
  by_cases c4 : c0 = (133 : Int32)
  · refine own_go (fun _ hr => XS.icmpYes X3.here hx rfl (pc0 := 23) (pc' := 33) rfl (hb hby own_d_prog_20_method_6_code_23) rfl (teq c4).1 (by decide) (by decide) hr) ?_
    show own_Go p e below _ (T3.setTop (mkF m 33 #[.val (.ref r_V1_1), .val (.int c0)] []))
    refine own_go (fun _ hr => XS.iconst X3.here hx rfl (hb hby own_d_prog_20_method_6_code_33) (XS.goto X3.here hx rfl (pc0 := 34) (pc' := 38) rfl (hb hby own_d_prog_20_method_6_code_34) (by decide) (by decide) hr)) ?_
    show own_Go p e below _ (T3.setTop (mkF m 38 #[.val (.ref r_V1_1), .val (.int c0)] [(.int (1 : Int32))]))
    exact own_retN X3 hx hlk Bd.returns (t := .boolean) (by simp) (hb hby own_d_prog_20_method_6_code_38) (by decide) (by decide) ⟨(show some (Value.int (1 : Int32)) = some (Value.int (own_l1 c0)) by simp [own_l1, c1, c2, c4]), N0, e3⟩
  refine own_go (fun _ hr => XS.icmpNo X3.here hx rfl (hb hby own_d_prog_20_method_6_code_23) rfl (feq c4).1 hr) ?_
  show own_Go p e below _ (T3.setTop (mkF m 26 #[.val (.ref r_V1_1), .val (.int c0)] []))
  refine own_go (fun _ hr => XS.iloadN X3.here hx rfl (hb hby own_d_prog_20_method_6_code_26) rfl (XS.sipush X3.here hx rfl (hb hby own_d_prog_20_method_6_code_27) hr)) ?_
  show own_Go p e below _ (T3.setTop (mkF m 30 #[.val (.ref r_V1_1), .val (.int c0)] [(.int (8232 : Int32)), (.int c0)]))
  by_cases c5 : c0 = (8232 : Int32)
  · refine own_go (fun _ hr => XS.icmpNo X3.here hx rfl (hb hby own_d_prog_20_method_6_code_30) rfl (teq c5).2 hr) ?_
    show own_Go p e below _ (T3.setTop (mkF m 33 #[.val (.ref r_V1_1), .val (.int c0)] []))
    refine own_go (fun _ hr => XS.iconst X3.here hx rfl (hb hby own_d_prog_20_method_6_code_33) (XS.goto X3.here hx rfl (pc0 := 34) (pc' := 38) rfl (hb hby own_d_prog_20_method_6_code_34) (by decide) (by decide) hr)) ?_
    show own_Go p e below _ (T3.setTop (mkF m 38 #[.val (.ref r_V1_1), .val (.int c0)] [(.int (1 : Int32))]))
    exact own_retN X3 hx hlk Bd.returns (t := .boolean) (by simp) (hb hby own_d_prog_20_method_6_code_38) (by decide) (by decide) ⟨(show some (Value.int (1 : Int32)) = some (Value.int (own_l1 c0)) by simp [own_l1, c1, c2, c4, c5]), N0, e3⟩
  refine own_go (fun _ hr => XS.icmpYes X3.here hx rfl (pc0 := 30) (pc' := 37) rfl (hb hby own_d_prog_20_method_6_code_30) rfl (feq c5).2 (by decide) (by decide) hr) ?_
  show own_Go p e below _ (T3.setTop (mkF m 37 #[.val (.ref r_V1_1), .val (.int c0)] []))
  refine own_go (fun _ hr => XS.iconst X3.here hx rfl (hb hby own_d_prog_20_method_6_code_37) hr) ?_
  show own_Go p e below _ (T3.setTop (mkF m 38 #[.val (.ref r_V1_1), .val (.int c0)] [(.int (0 : Int32))]))
  exact own_retN X3 hx hlk Bd.returns (t := .boolean) (by simp) (hb hby own_d_prog_20_method_6_code_38) (by decide) (by decide) ⟨(show some (Value.int (0 : Int32)) = some (Value.int (own_l1 c0)) by simp [own_l1, c1, c2, c4, c5]), N0, e3⟩
def Q_a1_endsLine (Z : State) (h0 : Heap) (n0 : Nat) (v : Option Value) (h : Heap) (L : List Loc) : Prop := v = some (.int (0 : Int32)) ∧ Fr n0 L ∧ h = h0
set_option maxRecDepth 65536 in
set_option maxHeartbeats 40000000 in
theorem rm_a1_endsLine (l : Launch) (Z : State) (a0 : Array Value) (hw : ∀ d ∈ tables_1, d.before a0 Z = true) (ws : List Jvm.Cond) (r_V1_0 : Addr) (r_V1_1 : Addr) (h0 : Heap) (n0 : Nat) (Z0 : n0 ≤ h0.size) (S_V1_1 : Sta Z h0 "com/example/fitzroy/fitzroy/XmlVersion" "V1_1" "Lcom/example/fitzroy/fitzroy/XmlVersion;" (.ref r_V1_1)) (ne_V1_0_V1_1 : r_V1_0 ≠ r_V1_1) :
    MetFree l (⟨"com/example/fitzroy/fitzroy/XmlVersion", "endsLine", "(I)Z"⟩ : MethodName) (head1 (Jvm.Cond.code (⟨"com/example/fitzroy/fitzroy/XmlVersion", "endsLine", "(I)Z"⟩ : MethodName) prog_20_method_6_code 2 (some .boolean) :: ws) ({ frames := 0, cells := 0, slots := 0, locals := 0 } : Room)) (fun aA U => aA = #[(.ref r_V1_0), (.int (9 : Int32))] ∧ Z.Warmed39 U.vm ∧ U.heap = h0) (fun _ _ _ _ _ => True) (fun _ U o U' => ∃ v L, o = .returned v ∧ Q_a1_endsLine Z h0 n0 v U'.heap L ∧ FrameEnd U o U' L ({ frames := 0, cells := 0, slots := 0, locals := 0 } : Room).cells ({ frames := 0, cells := 0, slots := 0, locals := 0 } : Room).slots) := by
  refine MetFree.of_bodySF (plainFor_of_name own_pn_com_example_fitzroy_fitzroy_XmlVersion) hisR ?_
  intro p e s m args below meth c s₁ Bd hml0 hP hK
  obtain ⟨rfl, hZ, hh⟩ := hP
  have hx := Bd.exec
  have hby := Bd.bytes
  have hlk : meth.locks = false := BodyLoose.notSynchronized Bd
  have hml : c.maxLocals = 2 := hml0
  have hown : s.vm.findClass "com/example/fitzroy/fitzroy/XmlVersion" = some m.cls := findClass_of_methodNamed Bd.named
  have hnm := (name_of_methodNamed Bd.named Bd.method).1
  have X0 : Stand p l e ({ frames := 0, cells := 0, slots := 0, locals := 0 } : Room) s m #[(.ref r_V1_0), (.int (9 : Int32))] below meth c s₁ [] 0 0 := Stand.of_body Bd
  have e0 : s₁.heap = h0 := by rw [← hh, Bd.state]; rfl
  have N0 := Fr.nil n0
  show own_Go p e below (own_K s (Q_a1_endsLine Z h0 n0) ({ frames := 0, cells := 0, slots := 0, locals := 0 } : Room).cells ({ frames := 0, cells := 0, slots := 0, locals := 0 } : Room).slots) (s₁.setTop (entryFrame m #[(.ref r_V1_0), (.int (9 : Int32))] 2))
  rw [(by first | (simp [entryFrame, mkF, argsToLocals, Value.category]; done) | rfl : entryFrame m #[(.ref r_V1_0), (.int (9 : Int32))] 2 = mkF m 0 #[.val (.ref r_V1_0), .val (.int (9 : Int32))] [])]
  show own_Go p e below _ (s₁.setTop (mkF m 0 #[.val (.ref r_V1_0), .val (.int (9 : Int32))] []))
  refine own_go (fun _ hr => XS.iloadN X0.here hx rfl (hb hby own_d_prog_20_method_6_code_0) rfl (XS.bipush X0.here hx rfl (hb hby own_d_prog_20_method_6_code_1) (XS.icmpNo X0.here hx rfl (hb hby own_d_prog_20_method_6_code_3) rfl (feq (by decide)).1 (XS.iloadN X0.here hx rfl (hb hby own_d_prog_20_method_6_code_6) rfl (XS.bipush X0.here hx rfl (hb hby own_d_prog_20_method_6_code_7) (XS.icmpNo X0.here hx rfl (hb hby own_d_prog_20_method_6_code_9) rfl (feq (by decide)).1 (XS.aloadN X0.here hx rfl (hb hby own_d_prog_20_method_6_code_12) rfl rfl hr))))))) ?_
  show own_Go p e below _ (s₁.setTop (mkF m 13 #[.val (.ref r_V1_0), .val (.int (9 : Int32))] [(.ref r_V1_0)]))
  obtain ⟨T1, X1, e1, st1⟩ := getS2 X0 hx hZ hown (host := "") (Or.inl (hw _ (own_m 10 rfl))) Via.refl e0 S_V1_1 (g := (mkF m 13 #[.val (.ref r_V1_0), .val (.int (9 : Int32))] [(.ref r_V1_0)])) rfl (hb hby own_d_prog_20_method_6_code_13)
  refine own_go st1 ?_
  show own_Go p e below _ (T1.setTop (mkF m 16 #[.val (.ref r_V1_0), .val (.int (9 : Int32))] [(.ref r_V1_1), (.ref r_V1_0)]))
  refine own_go (fun _ hr => Jvm.RoadKit.acmp X1 hx rfl rfl rfl (pc0 := 16) (pc' := 37) (same := false) rfl (hb hby own_d_prog_20_method_6_code_16) rfl (decide_eq_false fun q => ne_V1_0_V1_1 (Value.ref.inj q)) (by decide) (by decide) hr) ?_
  show own_Go p e below _ (T1.setTop (mkF m 37 #[.val (.ref r_V1_0), .val (.int (9 : Int32))] []))
  refine own_go (fun _ hr => XS.iconst X1.here hx rfl (hb hby own_d_prog_20_method_6_code_37) hr) ?_
  show own_Go p e below _ (T1.setTop (mkF m 38 #[.val (.ref r_V1_0), .val (.int (9 : Int32))] [(.int (0 : Int32))]))
  exact own_retN X1 hx hlk Bd.returns (t := .boolean) (by simp) (hb hby own_d_prog_20_method_6_code_38) (by decide) (by decide) ⟨rfl, N0, e1⟩
theorem own_pd0 : parseMethodDescriptor "(I)Z" = some ⟨[.int], some .boolean⟩ := by decide +kernel
def Q_a2_endsLine (Z : State) (h0 : Heap) (n0 : Nat) (v : Option Value) (h : Heap) (L : List Loc) : Prop := v = some (.int (1 : Int32)) ∧ Fr n0 L ∧ h = h0
set_option maxRecDepth 65536 in
set_option maxHeartbeats 40000000 in
theorem rm_a2_endsLine (l : Launch) (Z : State) (a0 : Array Value) (hw : ∀ d ∈ tables_1, d.before a0 Z = true) (ws : List Jvm.Cond) (r_V1_0 : Addr) (h0 : Heap) (n0 : Nat) (Z0 : n0 ≤ h0.size) :
    MetFree l (⟨"com/example/fitzroy/fitzroy/XmlVersion", "endsLine", "(I)Z"⟩ : MethodName) (head1 (Jvm.Cond.code (⟨"com/example/fitzroy/fitzroy/XmlVersion", "endsLine", "(I)Z"⟩ : MethodName) prog_20_method_6_code 2 (some .boolean) :: ws) ({ frames := 0, cells := 0, slots := 0, locals := 0 } : Room)) (fun aA U => aA = #[(.ref r_V1_0), (.int (10 : Int32))] ∧ Z.Warmed39 U.vm ∧ U.heap = h0) (fun _ _ _ _ _ => True) (fun _ U o U' => ∃ v L, o = .returned v ∧ Q_a2_endsLine Z h0 n0 v U'.heap L ∧ FrameEnd U o U' L ({ frames := 0, cells := 0, slots := 0, locals := 0 } : Room).cells ({ frames := 0, cells := 0, slots := 0, locals := 0 } : Room).slots) := by
  refine MetFree.of_bodySF (plainFor_of_name own_pn_com_example_fitzroy_fitzroy_XmlVersion) hisR ?_
  intro p e s m args below meth c s₁ Bd hml0 hP hK
  obtain ⟨rfl, hZ, hh⟩ := hP
  have hx := Bd.exec
  have hby := Bd.bytes
  have hlk : meth.locks = false := BodyLoose.notSynchronized Bd
  have hml : c.maxLocals = 2 := hml0
  have hown : s.vm.findClass "com/example/fitzroy/fitzroy/XmlVersion" = some m.cls := findClass_of_methodNamed Bd.named
  have hnm := (name_of_methodNamed Bd.named Bd.method).1
  have X0 : Stand p l e ({ frames := 0, cells := 0, slots := 0, locals := 0 } : Room) s m #[(.ref r_V1_0), (.int (10 : Int32))] below meth c s₁ [] 0 0 := Stand.of_body Bd
  have e0 : s₁.heap = h0 := by rw [← hh, Bd.state]; rfl
  have N0 := Fr.nil n0
  show own_Go p e below (own_K s (Q_a2_endsLine Z h0 n0) ({ frames := 0, cells := 0, slots := 0, locals := 0 } : Room).cells ({ frames := 0, cells := 0, slots := 0, locals := 0 } : Room).slots) (s₁.setTop (entryFrame m #[(.ref r_V1_0), (.int (10 : Int32))] 2))
  rw [(by first | (simp [entryFrame, mkF, argsToLocals, Value.category]; done) | rfl : entryFrame m #[(.ref r_V1_0), (.int (10 : Int32))] 2 = mkF m 0 #[.val (.ref r_V1_0), .val (.int (10 : Int32))] [])]
  show own_Go p e below _ (s₁.setTop (mkF m 0 #[.val (.ref r_V1_0), .val (.int (10 : Int32))] []))
  refine own_go (fun _ hr => XS.iloadN X0.here hx rfl (hb hby own_d_prog_20_method_6_code_0) rfl (XS.bipush X0.here hx rfl (hb hby own_d_prog_20_method_6_code_1) (XS.icmpYes X0.here hx rfl (pc0 := 3) (pc' := 33) rfl (hb hby own_d_prog_20_method_6_code_3) rfl (teq (by decide)).1 (by decide) (by decide) (XS.iconst X0.here hx rfl (hb hby own_d_prog_20_method_6_code_33) (XS.goto X0.here hx rfl (pc0 := 34) (pc' := 38) rfl (hb hby own_d_prog_20_method_6_code_34) (by decide) (by decide) hr))))) ?_
  show own_Go p e below _ (s₁.setTop (mkF m 38 #[.val (.ref r_V1_0), .val (.int (10 : Int32))] [(.int (1 : Int32))]))
  exact own_retN X0 hx hlk Bd.returns (t := .boolean) (by simp) (hb hby own_d_prog_20_method_6_code_38) (by decide) (by decide) ⟨rfl, N0, e0⟩
def Q_a3_endsLine (Z : State) (h0 : Heap) (n0 : Nat) (v : Option Value) (h : Heap) (L : List Loc) : Prop := v = some (.int (0 : Int32)) ∧ Fr n0 L ∧ h = h0
set_option maxRecDepth 65536 in
set_option maxHeartbeats 40000000 in
theorem rm_a3_endsLine (l : Launch) (Z : State) (a0 : Array Value) (hw : ∀ d ∈ tables_1, d.before a0 Z = true) (ws : List Jvm.Cond) (r_V1_0 : Addr) (r_V1_1 : Addr) (h0 : Heap) (n0 : Nat) (Z0 : n0 ≤ h0.size) (S_V1_1 : Sta Z h0 "com/example/fitzroy/fitzroy/XmlVersion" "V1_1" "Lcom/example/fitzroy/fitzroy/XmlVersion;" (.ref r_V1_1)) (ne_V1_0_V1_1 : r_V1_0 ≠ r_V1_1) :
    MetFree l (⟨"com/example/fitzroy/fitzroy/XmlVersion", "endsLine", "(I)Z"⟩ : MethodName) (head1 (Jvm.Cond.code (⟨"com/example/fitzroy/fitzroy/XmlVersion", "endsLine", "(I)Z"⟩ : MethodName) prog_20_method_6_code 2 (some .boolean) :: ws) ({ frames := 0, cells := 0, slots := 0, locals := 0 } : Room)) (fun aA U => aA = #[(.ref r_V1_0), (.int (11 : Int32))] ∧ Z.Warmed39 U.vm ∧ U.heap = h0) (fun _ _ _ _ _ => True) (fun _ U o U' => ∃ v L, o = .returned v ∧ Q_a3_endsLine Z h0 n0 v U'.heap L ∧ FrameEnd U o U' L ({ frames := 0, cells := 0, slots := 0, locals := 0 } : Room).cells ({ frames := 0, cells := 0, slots := 0, locals := 0 } : Room).slots) := by
  refine MetFree.of_bodySF (plainFor_of_name own_pn_com_example_fitzroy_fitzroy_XmlVersion) hisR ?_
  intro p e s m args below meth c s₁ Bd hml0 hP hK
  obtain ⟨rfl, hZ, hh⟩ := hP
  have hx := Bd.exec
  have hby := Bd.bytes
  have hlk : meth.locks = false := BodyLoose.notSynchronized Bd
  have hml : c.maxLocals = 2 := hml0
  have hown : s.vm.findClass "com/example/fitzroy/fitzroy/XmlVersion" = some m.cls := findClass_of_methodNamed Bd.named
  have hnm := (name_of_methodNamed Bd.named Bd.method).1
  have X0 : Stand p l e ({ frames := 0, cells := 0, slots := 0, locals := 0 } : Room) s m #[(.ref r_V1_0), (.int (11 : Int32))] below meth c s₁ [] 0 0 := Stand.of_body Bd
  have e0 : s₁.heap = h0 := by rw [← hh, Bd.state]; rfl
  have N0 := Fr.nil n0
  show own_Go p e below (own_K s (Q_a3_endsLine Z h0 n0) ({ frames := 0, cells := 0, slots := 0, locals := 0 } : Room).cells ({ frames := 0, cells := 0, slots := 0, locals := 0 } : Room).slots) (s₁.setTop (entryFrame m #[(.ref r_V1_0), (.int (11 : Int32))] 2))
  rw [(by first | (simp [entryFrame, mkF, argsToLocals, Value.category]; done) | rfl : entryFrame m #[(.ref r_V1_0), (.int (11 : Int32))] 2 = mkF m 0 #[.val (.ref r_V1_0), .val (.int (11 : Int32))] [])]
  show own_Go p e below _ (s₁.setTop (mkF m 0 #[.val (.ref r_V1_0), .val (.int (11 : Int32))] []))
  refine own_go (fun _ hr => XS.iloadN X0.here hx rfl (hb hby own_d_prog_20_method_6_code_0) rfl (XS.bipush X0.here hx rfl (hb hby own_d_prog_20_method_6_code_1) (XS.icmpNo X0.here hx rfl (hb hby own_d_prog_20_method_6_code_3) rfl (feq (by decide)).1 (XS.iloadN X0.here hx rfl (hb hby own_d_prog_20_method_6_code_6) rfl (XS.bipush X0.here hx rfl (hb hby own_d_prog_20_method_6_code_7) (XS.icmpNo X0.here hx rfl (hb hby own_d_prog_20_method_6_code_9) rfl (feq (by decide)).1 (XS.aloadN X0.here hx rfl (hb hby own_d_prog_20_method_6_code_12) rfl rfl hr))))))) ?_
  show own_Go p e below _ (s₁.setTop (mkF m 13 #[.val (.ref r_V1_0), .val (.int (11 : Int32))] [(.ref r_V1_0)]))
  obtain ⟨T1, X1, e1, st1⟩ := getS2 X0 hx hZ hown (host := "") (Or.inl (hw _ (own_m 10 rfl))) Via.refl e0 S_V1_1 (g := (mkF m 13 #[.val (.ref r_V1_0), .val (.int (11 : Int32))] [(.ref r_V1_0)])) rfl (hb hby own_d_prog_20_method_6_code_13)
  refine own_go st1 ?_
  show own_Go p e below _ (T1.setTop (mkF m 16 #[.val (.ref r_V1_0), .val (.int (11 : Int32))] [(.ref r_V1_1), (.ref r_V1_0)]))
  refine own_go (fun _ hr => Jvm.RoadKit.acmp X1 hx rfl rfl rfl (pc0 := 16) (pc' := 37) (same := false) rfl (hb hby own_d_prog_20_method_6_code_16) rfl (decide_eq_false fun q => ne_V1_0_V1_1 (Value.ref.inj q)) (by decide) (by decide) hr) ?_
  show own_Go p e below _ (T1.setTop (mkF m 37 #[.val (.ref r_V1_0), .val (.int (11 : Int32))] []))
  refine own_go (fun _ hr => XS.iconst X1.here hx rfl (hb hby own_d_prog_20_method_6_code_37) hr) ?_
  show own_Go p e below _ (T1.setTop (mkF m 38 #[.val (.ref r_V1_0), .val (.int (11 : Int32))] [(.int (0 : Int32))]))
  exact own_retN X1 hx hlk Bd.returns (t := .boolean) (by simp) (hb hby own_d_prog_20_method_6_code_38) (by decide) (by decide) ⟨rfl, N0, e1⟩
def Q_a4_endsLine (Z : State) (h0 : Heap) (n0 : Nat) (v : Option Value) (h : Heap) (L : List Loc) : Prop := v = some (.int (0 : Int32)) ∧ Fr n0 L ∧ h = h0
set_option maxRecDepth 65536 in
set_option maxHeartbeats 40000000 in
theorem rm_a4_endsLine (l : Launch) (Z : State) (a0 : Array Value) (hw : ∀ d ∈ tables_1, d.before a0 Z = true) (ws : List Jvm.Cond) (r_V1_0 : Addr) (r_V1_1 : Addr) (h0 : Heap) (n0 : Nat) (Z0 : n0 ≤ h0.size) (S_V1_1 : Sta Z h0 "com/example/fitzroy/fitzroy/XmlVersion" "V1_1" "Lcom/example/fitzroy/fitzroy/XmlVersion;" (.ref r_V1_1)) (ne_V1_0_V1_1 : r_V1_0 ≠ r_V1_1) :
    MetFree l (⟨"com/example/fitzroy/fitzroy/XmlVersion", "endsLine", "(I)Z"⟩ : MethodName) (head1 (Jvm.Cond.code (⟨"com/example/fitzroy/fitzroy/XmlVersion", "endsLine", "(I)Z"⟩ : MethodName) prog_20_method_6_code 2 (some .boolean) :: ws) ({ frames := 0, cells := 0, slots := 0, locals := 0 } : Room)) (fun aA U => aA = #[(.ref r_V1_0), (.int (12 : Int32))] ∧ Z.Warmed39 U.vm ∧ U.heap = h0) (fun _ _ _ _ _ => True) (fun _ U o U' => ∃ v L, o = .returned v ∧ Q_a4_endsLine Z h0 n0 v U'.heap L ∧ FrameEnd U o U' L ({ frames := 0, cells := 0, slots := 0, locals := 0 } : Room).cells ({ frames := 0, cells := 0, slots := 0, locals := 0 } : Room).slots) := by
  refine MetFree.of_bodySF (plainFor_of_name own_pn_com_example_fitzroy_fitzroy_XmlVersion) hisR ?_
  intro p e s m args below meth c s₁ Bd hml0 hP hK
  obtain ⟨rfl, hZ, hh⟩ := hP
  have hx := Bd.exec
  have hby := Bd.bytes
  have hlk : meth.locks = false := BodyLoose.notSynchronized Bd
  have hml : c.maxLocals = 2 := hml0
  have hown : s.vm.findClass "com/example/fitzroy/fitzroy/XmlVersion" = some m.cls := findClass_of_methodNamed Bd.named
  have hnm := (name_of_methodNamed Bd.named Bd.method).1
  have X0 : Stand p l e ({ frames := 0, cells := 0, slots := 0, locals := 0 } : Room) s m #[(.ref r_V1_0), (.int (12 : Int32))] below meth c s₁ [] 0 0 := Stand.of_body Bd
  have e0 : s₁.heap = h0 := by rw [← hh, Bd.state]; rfl
  have N0 := Fr.nil n0
  show own_Go p e below (own_K s (Q_a4_endsLine Z h0 n0) ({ frames := 0, cells := 0, slots := 0, locals := 0 } : Room).cells ({ frames := 0, cells := 0, slots := 0, locals := 0 } : Room).slots) (s₁.setTop (entryFrame m #[(.ref r_V1_0), (.int (12 : Int32))] 2))
  rw [(by first | (simp [entryFrame, mkF, argsToLocals, Value.category]; done) | rfl : entryFrame m #[(.ref r_V1_0), (.int (12 : Int32))] 2 = mkF m 0 #[.val (.ref r_V1_0), .val (.int (12 : Int32))] [])]
  show own_Go p e below _ (s₁.setTop (mkF m 0 #[.val (.ref r_V1_0), .val (.int (12 : Int32))] []))
  refine own_go (fun _ hr => XS.iloadN X0.here hx rfl (hb hby own_d_prog_20_method_6_code_0) rfl (XS.bipush X0.here hx rfl (hb hby own_d_prog_20_method_6_code_1) (XS.icmpNo X0.here hx rfl (hb hby own_d_prog_20_method_6_code_3) rfl (feq (by decide)).1 (XS.iloadN X0.here hx rfl (hb hby own_d_prog_20_method_6_code_6) rfl (XS.bipush X0.here hx rfl (hb hby own_d_prog_20_method_6_code_7) (XS.icmpNo X0.here hx rfl (hb hby own_d_prog_20_method_6_code_9) rfl (feq (by decide)).1 (XS.aloadN X0.here hx rfl (hb hby own_d_prog_20_method_6_code_12) rfl rfl hr))))))) ?_
  show own_Go p e below _ (s₁.setTop (mkF m 13 #[.val (.ref r_V1_0), .val (.int (12 : Int32))] [(.ref r_V1_0)]))
  obtain ⟨T1, X1, e1, st1⟩ := getS2 X0 hx hZ hown (host := "") (Or.inl (hw _ (own_m 10 rfl))) Via.refl e0 S_V1_1 (g := (mkF m 13 #[.val (.ref r_V1_0), .val (.int (12 : Int32))] [(.ref r_V1_0)])) rfl (hb hby own_d_prog_20_method_6_code_13)
  refine own_go st1 ?_
  show own_Go p e below _ (T1.setTop (mkF m 16 #[.val (.ref r_V1_0), .val (.int (12 : Int32))] [(.ref r_V1_1), (.ref r_V1_0)]))
  refine own_go (fun _ hr => Jvm.RoadKit.acmp X1 hx rfl rfl rfl (pc0 := 16) (pc' := 37) (same := false) rfl (hb hby own_d_prog_20_method_6_code_16) rfl (decide_eq_false fun q => ne_V1_0_V1_1 (Value.ref.inj q)) (by decide) (by decide) hr) ?_
  show own_Go p e below _ (T1.setTop (mkF m 37 #[.val (.ref r_V1_0), .val (.int (12 : Int32))] []))
  refine own_go (fun _ hr => XS.iconst X1.here hx rfl (hb hby own_d_prog_20_method_6_code_37) hr) ?_
  show own_Go p e below _ (T1.setTop (mkF m 38 #[.val (.ref r_V1_0), .val (.int (12 : Int32))] [(.int (0 : Int32))]))
  exact own_retN X1 hx hlk Bd.returns (t := .boolean) (by simp) (hb hby own_d_prog_20_method_6_code_38) (by decide) (by decide) ⟨rfl, N0, e1⟩
def Q_a5_endsLine (Z : State) (h0 : Heap) (n0 : Nat) (v : Option Value) (h : Heap) (L : List Loc) : Prop := v = some (.int (1 : Int32)) ∧ Fr n0 L ∧ h = h0
set_option maxRecDepth 65536 in
set_option maxHeartbeats 40000000 in
theorem rm_a5_endsLine (l : Launch) (Z : State) (a0 : Array Value) (hw : ∀ d ∈ tables_1, d.before a0 Z = true) (ws : List Jvm.Cond) (r_V1_0 : Addr) (h0 : Heap) (n0 : Nat) (Z0 : n0 ≤ h0.size) :
    MetFree l (⟨"com/example/fitzroy/fitzroy/XmlVersion", "endsLine", "(I)Z"⟩ : MethodName) (head1 (Jvm.Cond.code (⟨"com/example/fitzroy/fitzroy/XmlVersion", "endsLine", "(I)Z"⟩ : MethodName) prog_20_method_6_code 2 (some .boolean) :: ws) ({ frames := 0, cells := 0, slots := 0, locals := 0 } : Room)) (fun aA U => aA = #[(.ref r_V1_0), (.int (13 : Int32))] ∧ Z.Warmed39 U.vm ∧ U.heap = h0) (fun _ _ _ _ _ => True) (fun _ U o U' => ∃ v L, o = .returned v ∧ Q_a5_endsLine Z h0 n0 v U'.heap L ∧ FrameEnd U o U' L ({ frames := 0, cells := 0, slots := 0, locals := 0 } : Room).cells ({ frames := 0, cells := 0, slots := 0, locals := 0 } : Room).slots) := by
  refine MetFree.of_bodySF (plainFor_of_name own_pn_com_example_fitzroy_fitzroy_XmlVersion) hisR ?_
  intro p e s m args below meth c s₁ Bd hml0 hP hK
  obtain ⟨rfl, hZ, hh⟩ := hP
  have hx := Bd.exec
  have hby := Bd.bytes
  have hlk : meth.locks = false := BodyLoose.notSynchronized Bd
  have hml : c.maxLocals = 2 := hml0
  have hown : s.vm.findClass "com/example/fitzroy/fitzroy/XmlVersion" = some m.cls := findClass_of_methodNamed Bd.named
  have hnm := (name_of_methodNamed Bd.named Bd.method).1
  have X0 : Stand p l e ({ frames := 0, cells := 0, slots := 0, locals := 0 } : Room) s m #[(.ref r_V1_0), (.int (13 : Int32))] below meth c s₁ [] 0 0 := Stand.of_body Bd
  have e0 : s₁.heap = h0 := by rw [← hh, Bd.state]; rfl
  have N0 := Fr.nil n0
  show own_Go p e below (own_K s (Q_a5_endsLine Z h0 n0) ({ frames := 0, cells := 0, slots := 0, locals := 0 } : Room).cells ({ frames := 0, cells := 0, slots := 0, locals := 0 } : Room).slots) (s₁.setTop (entryFrame m #[(.ref r_V1_0), (.int (13 : Int32))] 2))
  rw [(by first | (simp [entryFrame, mkF, argsToLocals, Value.category]; done) | rfl : entryFrame m #[(.ref r_V1_0), (.int (13 : Int32))] 2 = mkF m 0 #[.val (.ref r_V1_0), .val (.int (13 : Int32))] [])]
  show own_Go p e below _ (s₁.setTop (mkF m 0 #[.val (.ref r_V1_0), .val (.int (13 : Int32))] []))
  refine own_go (fun _ hr => XS.iloadN X0.here hx rfl (hb hby own_d_prog_20_method_6_code_0) rfl (XS.bipush X0.here hx rfl (hb hby own_d_prog_20_method_6_code_1) (XS.icmpNo X0.here hx rfl (hb hby own_d_prog_20_method_6_code_3) rfl (feq (by decide)).1 (XS.iloadN X0.here hx rfl (hb hby own_d_prog_20_method_6_code_6) rfl (XS.bipush X0.here hx rfl (hb hby own_d_prog_20_method_6_code_7) (XS.icmpYes X0.here hx rfl (pc0 := 9) (pc' := 33) rfl (hb hby own_d_prog_20_method_6_code_9) rfl (teq (by decide)).1 (by decide) (by decide) (XS.iconst X0.here hx rfl (hb hby own_d_prog_20_method_6_code_33) (XS.goto X0.here hx rfl (pc0 := 34) (pc' := 38) rfl (hb hby own_d_prog_20_method_6_code_34) (by decide) (by decide) hr)))))))) ?_
  show own_Go p e below _ (s₁.setTop (mkF m 38 #[.val (.ref r_V1_0), .val (.int (13 : Int32))] [(.int (1 : Int32))]))
  exact own_retN X0 hx hlk Bd.returns (t := .boolean) (by simp) (hb hby own_d_prog_20_method_6_code_38) (by decide) (by decide) ⟨rfl, N0, e0⟩
def Q_a6_endsLine (Z : State) (h0 : Heap) (n0 : Nat) (v : Option Value) (h : Heap) (L : List Loc) : Prop := v = some (.int (0 : Int32)) ∧ Fr n0 L ∧ h = h0
set_option maxRecDepth 65536 in
set_option maxHeartbeats 40000000 in
theorem rm_a6_endsLine (l : Launch) (Z : State) (a0 : Array Value) (hw : ∀ d ∈ tables_1, d.before a0 Z = true) (ws : List Jvm.Cond) (r_V1_0 : Addr) (r_V1_1 : Addr) (h0 : Heap) (n0 : Nat) (Z0 : n0 ≤ h0.size) (S_V1_1 : Sta Z h0 "com/example/fitzroy/fitzroy/XmlVersion" "V1_1" "Lcom/example/fitzroy/fitzroy/XmlVersion;" (.ref r_V1_1)) (ne_V1_0_V1_1 : r_V1_0 ≠ r_V1_1) :
    MetFree l (⟨"com/example/fitzroy/fitzroy/XmlVersion", "endsLine", "(I)Z"⟩ : MethodName) (head1 (Jvm.Cond.code (⟨"com/example/fitzroy/fitzroy/XmlVersion", "endsLine", "(I)Z"⟩ : MethodName) prog_20_method_6_code 2 (some .boolean) :: ws) ({ frames := 0, cells := 0, slots := 0, locals := 0 } : Room)) (fun aA U => aA = #[(.ref r_V1_0), (.int (14 : Int32))] ∧ Z.Warmed39 U.vm ∧ U.heap = h0) (fun _ _ _ _ _ => True) (fun _ U o U' => ∃ v L, o = .returned v ∧ Q_a6_endsLine Z h0 n0 v U'.heap L ∧ FrameEnd U o U' L ({ frames := 0, cells := 0, slots := 0, locals := 0 } : Room).cells ({ frames := 0, cells := 0, slots := 0, locals := 0 } : Room).slots) := by
  refine MetFree.of_bodySF (plainFor_of_name own_pn_com_example_fitzroy_fitzroy_XmlVersion) hisR ?_
  intro p e s m args below meth c s₁ Bd hml0 hP hK
  obtain ⟨rfl, hZ, hh⟩ := hP
  have hx := Bd.exec
  have hby := Bd.bytes
  have hlk : meth.locks = false := BodyLoose.notSynchronized Bd
  have hml : c.maxLocals = 2 := hml0
  have hown : s.vm.findClass "com/example/fitzroy/fitzroy/XmlVersion" = some m.cls := findClass_of_methodNamed Bd.named
  have hnm := (name_of_methodNamed Bd.named Bd.method).1
  have X0 : Stand p l e ({ frames := 0, cells := 0, slots := 0, locals := 0 } : Room) s m #[(.ref r_V1_0), (.int (14 : Int32))] below meth c s₁ [] 0 0 := Stand.of_body Bd
  have e0 : s₁.heap = h0 := by rw [← hh, Bd.state]; rfl
  have N0 := Fr.nil n0
  show own_Go p e below (own_K s (Q_a6_endsLine Z h0 n0) ({ frames := 0, cells := 0, slots := 0, locals := 0 } : Room).cells ({ frames := 0, cells := 0, slots := 0, locals := 0 } : Room).slots) (s₁.setTop (entryFrame m #[(.ref r_V1_0), (.int (14 : Int32))] 2))
  rw [(by first | (simp [entryFrame, mkF, argsToLocals, Value.category]; done) | rfl : entryFrame m #[(.ref r_V1_0), (.int (14 : Int32))] 2 = mkF m 0 #[.val (.ref r_V1_0), .val (.int (14 : Int32))] [])]
  show own_Go p e below _ (s₁.setTop (mkF m 0 #[.val (.ref r_V1_0), .val (.int (14 : Int32))] []))
  refine own_go (fun _ hr => XS.iloadN X0.here hx rfl (hb hby own_d_prog_20_method_6_code_0) rfl (XS.bipush X0.here hx rfl (hb hby own_d_prog_20_method_6_code_1) (XS.icmpNo X0.here hx rfl (hb hby own_d_prog_20_method_6_code_3) rfl (feq (by decide)).1 (XS.iloadN X0.here hx rfl (hb hby own_d_prog_20_method_6_code_6) rfl (XS.bipush X0.here hx rfl (hb hby own_d_prog_20_method_6_code_7) (XS.icmpNo X0.here hx rfl (hb hby own_d_prog_20_method_6_code_9) rfl (feq (by decide)).1 (XS.aloadN X0.here hx rfl (hb hby own_d_prog_20_method_6_code_12) rfl rfl hr))))))) ?_
  show own_Go p e below _ (s₁.setTop (mkF m 13 #[.val (.ref r_V1_0), .val (.int (14 : Int32))] [(.ref r_V1_0)]))
  obtain ⟨T1, X1, e1, st1⟩ := getS2 X0 hx hZ hown (host := "") (Or.inl (hw _ (own_m 10 rfl))) Via.refl e0 S_V1_1 (g := (mkF m 13 #[.val (.ref r_V1_0), .val (.int (14 : Int32))] [(.ref r_V1_0)])) rfl (hb hby own_d_prog_20_method_6_code_13)
  refine own_go st1 ?_
  show own_Go p e below _ (T1.setTop (mkF m 16 #[.val (.ref r_V1_0), .val (.int (14 : Int32))] [(.ref r_V1_1), (.ref r_V1_0)]))
  refine own_go (fun _ hr => Jvm.RoadKit.acmp X1 hx rfl rfl rfl (pc0 := 16) (pc' := 37) (same := false) rfl (hb hby own_d_prog_20_method_6_code_16) rfl (decide_eq_false fun q => ne_V1_0_V1_1 (Value.ref.inj q)) (by decide) (by decide) hr) ?_
  show own_Go p e below _ (T1.setTop (mkF m 37 #[.val (.ref r_V1_0), .val (.int (14 : Int32))] []))
  refine own_go (fun _ hr => XS.iconst X1.here hx rfl (hb hby own_d_prog_20_method_6_code_37) hr) ?_
  show own_Go p e below _ (T1.setTop (mkF m 38 #[.val (.ref r_V1_0), .val (.int (14 : Int32))] [(.int (0 : Int32))]))
  exact own_retN X1 hx hlk Bd.returns (t := .boolean) (by simp) (hb hby own_d_prog_20_method_6_code_38) (by decide) (by decide) ⟨rfl, N0, e1⟩
def Q_a7_endsLine (Z : State) (h0 : Heap) (n0 : Nat) (v : Option Value) (h : Heap) (L : List Loc) : Prop := v = some (.int (0 : Int32)) ∧ Fr n0 L ∧ h = h0
set_option maxRecDepth 65536 in
set_option maxHeartbeats 40000000 in
theorem rm_a7_endsLine (l : Launch) (Z : State) (a0 : Array Value) (hw : ∀ d ∈ tables_1, d.before a0 Z = true) (ws : List Jvm.Cond) (r_V1_0 : Addr) (r_V1_1 : Addr) (h0 : Heap) (n0 : Nat) (Z0 : n0 ≤ h0.size) (S_V1_1 : Sta Z h0 "com/example/fitzroy/fitzroy/XmlVersion" "V1_1" "Lcom/example/fitzroy/fitzroy/XmlVersion;" (.ref r_V1_1)) (ne_V1_0_V1_1 : r_V1_0 ≠ r_V1_1) :
    MetFree l (⟨"com/example/fitzroy/fitzroy/XmlVersion", "endsLine", "(I)Z"⟩ : MethodName) (head1 (Jvm.Cond.code (⟨"com/example/fitzroy/fitzroy/XmlVersion", "endsLine", "(I)Z"⟩ : MethodName) prog_20_method_6_code 2 (some .boolean) :: ws) ({ frames := 0, cells := 0, slots := 0, locals := 0 } : Room)) (fun aA U => aA = #[(.ref r_V1_0), (.int (132 : Int32))] ∧ Z.Warmed39 U.vm ∧ U.heap = h0) (fun _ _ _ _ _ => True) (fun _ U o U' => ∃ v L, o = .returned v ∧ Q_a7_endsLine Z h0 n0 v U'.heap L ∧ FrameEnd U o U' L ({ frames := 0, cells := 0, slots := 0, locals := 0 } : Room).cells ({ frames := 0, cells := 0, slots := 0, locals := 0 } : Room).slots) := by
  refine MetFree.of_bodySF (plainFor_of_name own_pn_com_example_fitzroy_fitzroy_XmlVersion) hisR ?_
  intro p e s m args below meth c s₁ Bd hml0 hP hK
  obtain ⟨rfl, hZ, hh⟩ := hP
  have hx := Bd.exec
  have hby := Bd.bytes
  have hlk : meth.locks = false := BodyLoose.notSynchronized Bd
  have hml : c.maxLocals = 2 := hml0
  have hown : s.vm.findClass "com/example/fitzroy/fitzroy/XmlVersion" = some m.cls := findClass_of_methodNamed Bd.named
  have hnm := (name_of_methodNamed Bd.named Bd.method).1
  have X0 : Stand p l e ({ frames := 0, cells := 0, slots := 0, locals := 0 } : Room) s m #[(.ref r_V1_0), (.int (132 : Int32))] below meth c s₁ [] 0 0 := Stand.of_body Bd
  have e0 : s₁.heap = h0 := by rw [← hh, Bd.state]; rfl
  have N0 := Fr.nil n0
  show own_Go p e below (own_K s (Q_a7_endsLine Z h0 n0) ({ frames := 0, cells := 0, slots := 0, locals := 0 } : Room).cells ({ frames := 0, cells := 0, slots := 0, locals := 0 } : Room).slots) (s₁.setTop (entryFrame m #[(.ref r_V1_0), (.int (132 : Int32))] 2))
  rw [(by first | (simp [entryFrame, mkF, argsToLocals, Value.category]; done) | rfl : entryFrame m #[(.ref r_V1_0), (.int (132 : Int32))] 2 = mkF m 0 #[.val (.ref r_V1_0), .val (.int (132 : Int32))] [])]
  show own_Go p e below _ (s₁.setTop (mkF m 0 #[.val (.ref r_V1_0), .val (.int (132 : Int32))] []))
  refine own_go (fun _ hr => XS.iloadN X0.here hx rfl (hb hby own_d_prog_20_method_6_code_0) rfl (XS.bipush X0.here hx rfl (hb hby own_d_prog_20_method_6_code_1) (XS.icmpNo X0.here hx rfl (hb hby own_d_prog_20_method_6_code_3) rfl (feq (by decide)).1 (XS.iloadN X0.here hx rfl (hb hby own_d_prog_20_method_6_code_6) rfl (XS.bipush X0.here hx rfl (hb hby own_d_prog_20_method_6_code_7) (XS.icmpNo X0.here hx rfl (hb hby own_d_prog_20_method_6_code_9) rfl (feq (by decide)).1 (XS.aloadN X0.here hx rfl (hb hby own_d_prog_20_method_6_code_12) rfl rfl hr))))))) ?_
  show own_Go p e below _ (s₁.setTop (mkF m 13 #[.val (.ref r_V1_0), .val (.int (132 : Int32))] [(.ref r_V1_0)]))
  obtain ⟨T1, X1, e1, st1⟩ := getS2 X0 hx hZ hown (host := "") (Or.inl (hw _ (own_m 10 rfl))) Via.refl e0 S_V1_1 (g := (mkF m 13 #[.val (.ref r_V1_0), .val (.int (132 : Int32))] [(.ref r_V1_0)])) rfl (hb hby own_d_prog_20_method_6_code_13)
  refine own_go st1 ?_
  show own_Go p e below _ (T1.setTop (mkF m 16 #[.val (.ref r_V1_0), .val (.int (132 : Int32))] [(.ref r_V1_1), (.ref r_V1_0)]))
  refine own_go (fun _ hr => Jvm.RoadKit.acmp X1 hx rfl rfl rfl (pc0 := 16) (pc' := 37) (same := false) rfl (hb hby own_d_prog_20_method_6_code_16) rfl (decide_eq_false fun q => ne_V1_0_V1_1 (Value.ref.inj q)) (by decide) (by decide) hr) ?_
  show own_Go p e below _ (T1.setTop (mkF m 37 #[.val (.ref r_V1_0), .val (.int (132 : Int32))] []))
  refine own_go (fun _ hr => XS.iconst X1.here hx rfl (hb hby own_d_prog_20_method_6_code_37) hr) ?_
  show own_Go p e below _ (T1.setTop (mkF m 38 #[.val (.ref r_V1_0), .val (.int (132 : Int32))] [(.int (0 : Int32))]))
  exact own_retN X1 hx hlk Bd.returns (t := .boolean) (by simp) (hb hby own_d_prog_20_method_6_code_38) (by decide) (by decide) ⟨rfl, N0, e1⟩
def Q_a8_endsLine (Z : State) (h0 : Heap) (n0 : Nat) (v : Option Value) (h : Heap) (L : List Loc) : Prop := v = some (.int (0 : Int32)) ∧ Fr n0 L ∧ h = h0
set_option maxRecDepth 65536 in
set_option maxHeartbeats 40000000 in
theorem rm_a8_endsLine (l : Launch) (Z : State) (a0 : Array Value) (hw : ∀ d ∈ tables_1, d.before a0 Z = true) (ws : List Jvm.Cond) (r_V1_0 : Addr) (r_V1_1 : Addr) (h0 : Heap) (n0 : Nat) (Z0 : n0 ≤ h0.size) (S_V1_1 : Sta Z h0 "com/example/fitzroy/fitzroy/XmlVersion" "V1_1" "Lcom/example/fitzroy/fitzroy/XmlVersion;" (.ref r_V1_1)) (ne_V1_0_V1_1 : r_V1_0 ≠ r_V1_1) :
    MetFree l (⟨"com/example/fitzroy/fitzroy/XmlVersion", "endsLine", "(I)Z"⟩ : MethodName) (head1 (Jvm.Cond.code (⟨"com/example/fitzroy/fitzroy/XmlVersion", "endsLine", "(I)Z"⟩ : MethodName) prog_20_method_6_code 2 (some .boolean) :: ws) ({ frames := 0, cells := 0, slots := 0, locals := 0 } : Room)) (fun aA U => aA = #[(.ref r_V1_0), (.int (133 : Int32))] ∧ Z.Warmed39 U.vm ∧ U.heap = h0) (fun _ _ _ _ _ => True) (fun _ U o U' => ∃ v L, o = .returned v ∧ Q_a8_endsLine Z h0 n0 v U'.heap L ∧ FrameEnd U o U' L ({ frames := 0, cells := 0, slots := 0, locals := 0 } : Room).cells ({ frames := 0, cells := 0, slots := 0, locals := 0 } : Room).slots) := by
  refine MetFree.of_bodySF (plainFor_of_name own_pn_com_example_fitzroy_fitzroy_XmlVersion) hisR ?_
  intro p e s m args below meth c s₁ Bd hml0 hP hK
  obtain ⟨rfl, hZ, hh⟩ := hP
  have hx := Bd.exec
  have hby := Bd.bytes
  have hlk : meth.locks = false := BodyLoose.notSynchronized Bd
  have hml : c.maxLocals = 2 := hml0
  have hown : s.vm.findClass "com/example/fitzroy/fitzroy/XmlVersion" = some m.cls := findClass_of_methodNamed Bd.named
  have hnm := (name_of_methodNamed Bd.named Bd.method).1
  have X0 : Stand p l e ({ frames := 0, cells := 0, slots := 0, locals := 0 } : Room) s m #[(.ref r_V1_0), (.int (133 : Int32))] below meth c s₁ [] 0 0 := Stand.of_body Bd
  have e0 : s₁.heap = h0 := by rw [← hh, Bd.state]; rfl
  have N0 := Fr.nil n0
  show own_Go p e below (own_K s (Q_a8_endsLine Z h0 n0) ({ frames := 0, cells := 0, slots := 0, locals := 0 } : Room).cells ({ frames := 0, cells := 0, slots := 0, locals := 0 } : Room).slots) (s₁.setTop (entryFrame m #[(.ref r_V1_0), (.int (133 : Int32))] 2))
  rw [(by first | (simp [entryFrame, mkF, argsToLocals, Value.category]; done) | rfl : entryFrame m #[(.ref r_V1_0), (.int (133 : Int32))] 2 = mkF m 0 #[.val (.ref r_V1_0), .val (.int (133 : Int32))] [])]
  show own_Go p e below _ (s₁.setTop (mkF m 0 #[.val (.ref r_V1_0), .val (.int (133 : Int32))] []))
  refine own_go (fun _ hr => XS.iloadN X0.here hx rfl (hb hby own_d_prog_20_method_6_code_0) rfl (XS.bipush X0.here hx rfl (hb hby own_d_prog_20_method_6_code_1) (XS.icmpNo X0.here hx rfl (hb hby own_d_prog_20_method_6_code_3) rfl (feq (by decide)).1 (XS.iloadN X0.here hx rfl (hb hby own_d_prog_20_method_6_code_6) rfl (XS.bipush X0.here hx rfl (hb hby own_d_prog_20_method_6_code_7) (XS.icmpNo X0.here hx rfl (hb hby own_d_prog_20_method_6_code_9) rfl (feq (by decide)).1 (XS.aloadN X0.here hx rfl (hb hby own_d_prog_20_method_6_code_12) rfl rfl hr))))))) ?_
  show own_Go p e below _ (s₁.setTop (mkF m 13 #[.val (.ref r_V1_0), .val (.int (133 : Int32))] [(.ref r_V1_0)]))
  obtain ⟨T1, X1, e1, st1⟩ := getS2 X0 hx hZ hown (host := "") (Or.inl (hw _ (own_m 10 rfl))) Via.refl e0 S_V1_1 (g := (mkF m 13 #[.val (.ref r_V1_0), .val (.int (133 : Int32))] [(.ref r_V1_0)])) rfl (hb hby own_d_prog_20_method_6_code_13)
  refine own_go st1 ?_
  show own_Go p e below _ (T1.setTop (mkF m 16 #[.val (.ref r_V1_0), .val (.int (133 : Int32))] [(.ref r_V1_1), (.ref r_V1_0)]))
  refine own_go (fun _ hr => Jvm.RoadKit.acmp X1 hx rfl rfl rfl (pc0 := 16) (pc' := 37) (same := false) rfl (hb hby own_d_prog_20_method_6_code_16) rfl (decide_eq_false fun q => ne_V1_0_V1_1 (Value.ref.inj q)) (by decide) (by decide) hr) ?_
  show own_Go p e below _ (T1.setTop (mkF m 37 #[.val (.ref r_V1_0), .val (.int (133 : Int32))] []))
  refine own_go (fun _ hr => XS.iconst X1.here hx rfl (hb hby own_d_prog_20_method_6_code_37) hr) ?_
  show own_Go p e below _ (T1.setTop (mkF m 38 #[.val (.ref r_V1_0), .val (.int (133 : Int32))] [(.int (0 : Int32))]))
  exact own_retN X1 hx hlk Bd.returns (t := .boolean) (by simp) (hb hby own_d_prog_20_method_6_code_38) (by decide) (by decide) ⟨rfl, N0, e1⟩
def Q_a9_endsLine (Z : State) (h0 : Heap) (n0 : Nat) (v : Option Value) (h : Heap) (L : List Loc) : Prop := v = some (.int (0 : Int32)) ∧ Fr n0 L ∧ h = h0
set_option maxRecDepth 65536 in
set_option maxHeartbeats 40000000 in
theorem rm_a9_endsLine (l : Launch) (Z : State) (a0 : Array Value) (hw : ∀ d ∈ tables_1, d.before a0 Z = true) (ws : List Jvm.Cond) (r_V1_0 : Addr) (r_V1_1 : Addr) (h0 : Heap) (n0 : Nat) (Z0 : n0 ≤ h0.size) (S_V1_1 : Sta Z h0 "com/example/fitzroy/fitzroy/XmlVersion" "V1_1" "Lcom/example/fitzroy/fitzroy/XmlVersion;" (.ref r_V1_1)) (ne_V1_0_V1_1 : r_V1_0 ≠ r_V1_1) :
    MetFree l (⟨"com/example/fitzroy/fitzroy/XmlVersion", "endsLine", "(I)Z"⟩ : MethodName) (head1 (Jvm.Cond.code (⟨"com/example/fitzroy/fitzroy/XmlVersion", "endsLine", "(I)Z"⟩ : MethodName) prog_20_method_6_code 2 (some .boolean) :: ws) ({ frames := 0, cells := 0, slots := 0, locals := 0 } : Room)) (fun aA U => aA = #[(.ref r_V1_0), (.int (134 : Int32))] ∧ Z.Warmed39 U.vm ∧ U.heap = h0) (fun _ _ _ _ _ => True) (fun _ U o U' => ∃ v L, o = .returned v ∧ Q_a9_endsLine Z h0 n0 v U'.heap L ∧ FrameEnd U o U' L ({ frames := 0, cells := 0, slots := 0, locals := 0 } : Room).cells ({ frames := 0, cells := 0, slots := 0, locals := 0 } : Room).slots) := by
  refine MetFree.of_bodySF (plainFor_of_name own_pn_com_example_fitzroy_fitzroy_XmlVersion) hisR ?_
  intro p e s m args below meth c s₁ Bd hml0 hP hK
  obtain ⟨rfl, hZ, hh⟩ := hP
  have hx := Bd.exec
  have hby := Bd.bytes
  have hlk : meth.locks = false := BodyLoose.notSynchronized Bd
  have hml : c.maxLocals = 2 := hml0
  have hown : s.vm.findClass "com/example/fitzroy/fitzroy/XmlVersion" = some m.cls := findClass_of_methodNamed Bd.named
  have hnm := (name_of_methodNamed Bd.named Bd.method).1
  have X0 : Stand p l e ({ frames := 0, cells := 0, slots := 0, locals := 0 } : Room) s m #[(.ref r_V1_0), (.int (134 : Int32))] below meth c s₁ [] 0 0 := Stand.of_body Bd
  have e0 : s₁.heap = h0 := by rw [← hh, Bd.state]; rfl
  have N0 := Fr.nil n0
  show own_Go p e below (own_K s (Q_a9_endsLine Z h0 n0) ({ frames := 0, cells := 0, slots := 0, locals := 0 } : Room).cells ({ frames := 0, cells := 0, slots := 0, locals := 0 } : Room).slots) (s₁.setTop (entryFrame m #[(.ref r_V1_0), (.int (134 : Int32))] 2))
  rw [(by first | (simp [entryFrame, mkF, argsToLocals, Value.category]; done) | rfl : entryFrame m #[(.ref r_V1_0), (.int (134 : Int32))] 2 = mkF m 0 #[.val (.ref r_V1_0), .val (.int (134 : Int32))] [])]
  show own_Go p e below _ (s₁.setTop (mkF m 0 #[.val (.ref r_V1_0), .val (.int (134 : Int32))] []))
  refine own_go (fun _ hr => XS.iloadN X0.here hx rfl (hb hby own_d_prog_20_method_6_code_0) rfl (XS.bipush X0.here hx rfl (hb hby own_d_prog_20_method_6_code_1) (XS.icmpNo X0.here hx rfl (hb hby own_d_prog_20_method_6_code_3) rfl (feq (by decide)).1 (XS.iloadN X0.here hx rfl (hb hby own_d_prog_20_method_6_code_6) rfl (XS.bipush X0.here hx rfl (hb hby own_d_prog_20_method_6_code_7) (XS.icmpNo X0.here hx rfl (hb hby own_d_prog_20_method_6_code_9) rfl (feq (by decide)).1 (XS.aloadN X0.here hx rfl (hb hby own_d_prog_20_method_6_code_12) rfl rfl hr))))))) ?_
  show own_Go p e below _ (s₁.setTop (mkF m 13 #[.val (.ref r_V1_0), .val (.int (134 : Int32))] [(.ref r_V1_0)]))
  obtain ⟨T1, X1, e1, st1⟩ := getS2 X0 hx hZ hown (host := "") (Or.inl (hw _ (own_m 10 rfl))) Via.refl e0 S_V1_1 (g := (mkF m 13 #[.val (.ref r_V1_0), .val (.int (134 : Int32))] [(.ref r_V1_0)])) rfl (hb hby own_d_prog_20_method_6_code_13)
  refine own_go st1 ?_
  show own_Go p e below _ (T1.setTop (mkF m 16 #[.val (.ref r_V1_0), .val (.int (134 : Int32))] [(.ref r_V1_1), (.ref r_V1_0)]))
  refine own_go (fun _ hr => Jvm.RoadKit.acmp X1 hx rfl rfl rfl (pc0 := 16) (pc' := 37) (same := false) rfl (hb hby own_d_prog_20_method_6_code_16) rfl (decide_eq_false fun q => ne_V1_0_V1_1 (Value.ref.inj q)) (by decide) (by decide) hr) ?_
  show own_Go p e below _ (T1.setTop (mkF m 37 #[.val (.ref r_V1_0), .val (.int (134 : Int32))] []))
  refine own_go (fun _ hr => XS.iconst X1.here hx rfl (hb hby own_d_prog_20_method_6_code_37) hr) ?_
  show own_Go p e below _ (T1.setTop (mkF m 38 #[.val (.ref r_V1_0), .val (.int (134 : Int32))] [(.int (0 : Int32))]))
  exact own_retN X1 hx hlk Bd.returns (t := .boolean) (by simp) (hb hby own_d_prog_20_method_6_code_38) (by decide) (by decide) ⟨rfl, N0, e1⟩
def Q_a10_endsLine (Z : State) (h0 : Heap) (n0 : Nat) (v : Option Value) (h : Heap) (L : List Loc) : Prop := v = some (.int (0 : Int32)) ∧ Fr n0 L ∧ h = h0
set_option maxRecDepth 65536 in
set_option maxHeartbeats 40000000 in
theorem rm_a10_endsLine (l : Launch) (Z : State) (a0 : Array Value) (hw : ∀ d ∈ tables_1, d.before a0 Z = true) (ws : List Jvm.Cond) (r_V1_0 : Addr) (r_V1_1 : Addr) (h0 : Heap) (n0 : Nat) (Z0 : n0 ≤ h0.size) (S_V1_1 : Sta Z h0 "com/example/fitzroy/fitzroy/XmlVersion" "V1_1" "Lcom/example/fitzroy/fitzroy/XmlVersion;" (.ref r_V1_1)) (ne_V1_0_V1_1 : r_V1_0 ≠ r_V1_1) :
    MetFree l (⟨"com/example/fitzroy/fitzroy/XmlVersion", "endsLine", "(I)Z"⟩ : MethodName) (head1 (Jvm.Cond.code (⟨"com/example/fitzroy/fitzroy/XmlVersion", "endsLine", "(I)Z"⟩ : MethodName) prog_20_method_6_code 2 (some .boolean) :: ws) ({ frames := 0, cells := 0, slots := 0, locals := 0 } : Room)) (fun aA U => aA = #[(.ref r_V1_0), (.int (8231 : Int32))] ∧ Z.Warmed39 U.vm ∧ U.heap = h0) (fun _ _ _ _ _ => True) (fun _ U o U' => ∃ v L, o = .returned v ∧ Q_a10_endsLine Z h0 n0 v U'.heap L ∧ FrameEnd U o U' L ({ frames := 0, cells := 0, slots := 0, locals := 0 } : Room).cells ({ frames := 0, cells := 0, slots := 0, locals := 0 } : Room).slots) := by
  refine MetFree.of_bodySF (plainFor_of_name own_pn_com_example_fitzroy_fitzroy_XmlVersion) hisR ?_
  intro p e s m args below meth c s₁ Bd hml0 hP hK
  obtain ⟨rfl, hZ, hh⟩ := hP
  have hx := Bd.exec
  have hby := Bd.bytes
  have hlk : meth.locks = false := BodyLoose.notSynchronized Bd
  have hml : c.maxLocals = 2 := hml0
  have hown : s.vm.findClass "com/example/fitzroy/fitzroy/XmlVersion" = some m.cls := findClass_of_methodNamed Bd.named
  have hnm := (name_of_methodNamed Bd.named Bd.method).1
  have X0 : Stand p l e ({ frames := 0, cells := 0, slots := 0, locals := 0 } : Room) s m #[(.ref r_V1_0), (.int (8231 : Int32))] below meth c s₁ [] 0 0 := Stand.of_body Bd
  have e0 : s₁.heap = h0 := by rw [← hh, Bd.state]; rfl
  have N0 := Fr.nil n0
  show own_Go p e below (own_K s (Q_a10_endsLine Z h0 n0) ({ frames := 0, cells := 0, slots := 0, locals := 0 } : Room).cells ({ frames := 0, cells := 0, slots := 0, locals := 0 } : Room).slots) (s₁.setTop (entryFrame m #[(.ref r_V1_0), (.int (8231 : Int32))] 2))
  rw [(by first | (simp [entryFrame, mkF, argsToLocals, Value.category]; done) | rfl : entryFrame m #[(.ref r_V1_0), (.int (8231 : Int32))] 2 = mkF m 0 #[.val (.ref r_V1_0), .val (.int (8231 : Int32))] [])]
  show own_Go p e below _ (s₁.setTop (mkF m 0 #[.val (.ref r_V1_0), .val (.int (8231 : Int32))] []))
  refine own_go (fun _ hr => XS.iloadN X0.here hx rfl (hb hby own_d_prog_20_method_6_code_0) rfl (XS.bipush X0.here hx rfl (hb hby own_d_prog_20_method_6_code_1) (XS.icmpNo X0.here hx rfl (hb hby own_d_prog_20_method_6_code_3) rfl (feq (by decide)).1 (XS.iloadN X0.here hx rfl (hb hby own_d_prog_20_method_6_code_6) rfl (XS.bipush X0.here hx rfl (hb hby own_d_prog_20_method_6_code_7) (XS.icmpNo X0.here hx rfl (hb hby own_d_prog_20_method_6_code_9) rfl (feq (by decide)).1 (XS.aloadN X0.here hx rfl (hb hby own_d_prog_20_method_6_code_12) rfl rfl hr))))))) ?_
  show own_Go p e below _ (s₁.setTop (mkF m 13 #[.val (.ref r_V1_0), .val (.int (8231 : Int32))] [(.ref r_V1_0)]))
  obtain ⟨T1, X1, e1, st1⟩ := getS2 X0 hx hZ hown (host := "") (Or.inl (hw _ (own_m 10 rfl))) Via.refl e0 S_V1_1 (g := (mkF m 13 #[.val (.ref r_V1_0), .val (.int (8231 : Int32))] [(.ref r_V1_0)])) rfl (hb hby own_d_prog_20_method_6_code_13)
  refine own_go st1 ?_
  show own_Go p e below _ (T1.setTop (mkF m 16 #[.val (.ref r_V1_0), .val (.int (8231 : Int32))] [(.ref r_V1_1), (.ref r_V1_0)]))
  refine own_go (fun _ hr => Jvm.RoadKit.acmp X1 hx rfl rfl rfl (pc0 := 16) (pc' := 37) (same := false) rfl (hb hby own_d_prog_20_method_6_code_16) rfl (decide_eq_false fun q => ne_V1_0_V1_1 (Value.ref.inj q)) (by decide) (by decide) hr) ?_
  show own_Go p e below _ (T1.setTop (mkF m 37 #[.val (.ref r_V1_0), .val (.int (8231 : Int32))] []))
  refine own_go (fun _ hr => XS.iconst X1.here hx rfl (hb hby own_d_prog_20_method_6_code_37) hr) ?_
  show own_Go p e below _ (T1.setTop (mkF m 38 #[.val (.ref r_V1_0), .val (.int (8231 : Int32))] [(.int (0 : Int32))]))
  exact own_retN X1 hx hlk Bd.returns (t := .boolean) (by simp) (hb hby own_d_prog_20_method_6_code_38) (by decide) (by decide) ⟨rfl, N0, e1⟩
def Q_a11_endsLine (Z : State) (h0 : Heap) (n0 : Nat) (v : Option Value) (h : Heap) (L : List Loc) : Prop := v = some (.int (0 : Int32)) ∧ Fr n0 L ∧ h = h0
set_option maxRecDepth 65536 in
set_option maxHeartbeats 40000000 in
theorem rm_a11_endsLine (l : Launch) (Z : State) (a0 : Array Value) (hw : ∀ d ∈ tables_1, d.before a0 Z = true) (ws : List Jvm.Cond) (r_V1_0 : Addr) (r_V1_1 : Addr) (h0 : Heap) (n0 : Nat) (Z0 : n0 ≤ h0.size) (S_V1_1 : Sta Z h0 "com/example/fitzroy/fitzroy/XmlVersion" "V1_1" "Lcom/example/fitzroy/fitzroy/XmlVersion;" (.ref r_V1_1)) (ne_V1_0_V1_1 : r_V1_0 ≠ r_V1_1) :
    MetFree l (⟨"com/example/fitzroy/fitzroy/XmlVersion", "endsLine", "(I)Z"⟩ : MethodName) (head1 (Jvm.Cond.code (⟨"com/example/fitzroy/fitzroy/XmlVersion", "endsLine", "(I)Z"⟩ : MethodName) prog_20_method_6_code 2 (some .boolean) :: ws) ({ frames := 0, cells := 0, slots := 0, locals := 0 } : Room)) (fun aA U => aA = #[(.ref r_V1_0), (.int (8232 : Int32))] ∧ Z.Warmed39 U.vm ∧ U.heap = h0) (fun _ _ _ _ _ => True) (fun _ U o U' => ∃ v L, o = .returned v ∧ Q_a11_endsLine Z h0 n0 v U'.heap L ∧ FrameEnd U o U' L ({ frames := 0, cells := 0, slots := 0, locals := 0 } : Room).cells ({ frames := 0, cells := 0, slots := 0, locals := 0 } : Room).slots) := by
  refine MetFree.of_bodySF (plainFor_of_name own_pn_com_example_fitzroy_fitzroy_XmlVersion) hisR ?_
  intro p e s m args below meth c s₁ Bd hml0 hP hK
  obtain ⟨rfl, hZ, hh⟩ := hP
  have hx := Bd.exec
  have hby := Bd.bytes
  have hlk : meth.locks = false := BodyLoose.notSynchronized Bd
  have hml : c.maxLocals = 2 := hml0
  have hown : s.vm.findClass "com/example/fitzroy/fitzroy/XmlVersion" = some m.cls := findClass_of_methodNamed Bd.named
  have hnm := (name_of_methodNamed Bd.named Bd.method).1
  have X0 : Stand p l e ({ frames := 0, cells := 0, slots := 0, locals := 0 } : Room) s m #[(.ref r_V1_0), (.int (8232 : Int32))] below meth c s₁ [] 0 0 := Stand.of_body Bd
  have e0 : s₁.heap = h0 := by rw [← hh, Bd.state]; rfl
  have N0 := Fr.nil n0
  show own_Go p e below (own_K s (Q_a11_endsLine Z h0 n0) ({ frames := 0, cells := 0, slots := 0, locals := 0 } : Room).cells ({ frames := 0, cells := 0, slots := 0, locals := 0 } : Room).slots) (s₁.setTop (entryFrame m #[(.ref r_V1_0), (.int (8232 : Int32))] 2))
  rw [(by first | (simp [entryFrame, mkF, argsToLocals, Value.category]; done) | rfl : entryFrame m #[(.ref r_V1_0), (.int (8232 : Int32))] 2 = mkF m 0 #[.val (.ref r_V1_0), .val (.int (8232 : Int32))] [])]
  show own_Go p e below _ (s₁.setTop (mkF m 0 #[.val (.ref r_V1_0), .val (.int (8232 : Int32))] []))
  refine own_go (fun _ hr => XS.iloadN X0.here hx rfl (hb hby own_d_prog_20_method_6_code_0) rfl (XS.bipush X0.here hx rfl (hb hby own_d_prog_20_method_6_code_1) (XS.icmpNo X0.here hx rfl (hb hby own_d_prog_20_method_6_code_3) rfl (feq (by decide)).1 (XS.iloadN X0.here hx rfl (hb hby own_d_prog_20_method_6_code_6) rfl (XS.bipush X0.here hx rfl (hb hby own_d_prog_20_method_6_code_7) (XS.icmpNo X0.here hx rfl (hb hby own_d_prog_20_method_6_code_9) rfl (feq (by decide)).1 (XS.aloadN X0.here hx rfl (hb hby own_d_prog_20_method_6_code_12) rfl rfl hr))))))) ?_
  show own_Go p e below _ (s₁.setTop (mkF m 13 #[.val (.ref r_V1_0), .val (.int (8232 : Int32))] [(.ref r_V1_0)]))
  obtain ⟨T1, X1, e1, st1⟩ := getS2 X0 hx hZ hown (host := "") (Or.inl (hw _ (own_m 10 rfl))) Via.refl e0 S_V1_1 (g := (mkF m 13 #[.val (.ref r_V1_0), .val (.int (8232 : Int32))] [(.ref r_V1_0)])) rfl (hb hby own_d_prog_20_method_6_code_13)
  refine own_go st1 ?_
  show own_Go p e below _ (T1.setTop (mkF m 16 #[.val (.ref r_V1_0), .val (.int (8232 : Int32))] [(.ref r_V1_1), (.ref r_V1_0)]))
  refine own_go (fun _ hr => Jvm.RoadKit.acmp X1 hx rfl rfl rfl (pc0 := 16) (pc' := 37) (same := false) rfl (hb hby own_d_prog_20_method_6_code_16) rfl (decide_eq_false fun q => ne_V1_0_V1_1 (Value.ref.inj q)) (by decide) (by decide) hr) ?_
  show own_Go p e below _ (T1.setTop (mkF m 37 #[.val (.ref r_V1_0), .val (.int (8232 : Int32))] []))
  refine own_go (fun _ hr => XS.iconst X1.here hx rfl (hb hby own_d_prog_20_method_6_code_37) hr) ?_
  show own_Go p e below _ (T1.setTop (mkF m 38 #[.val (.ref r_V1_0), .val (.int (8232 : Int32))] [(.int (0 : Int32))]))
  exact own_retN X1 hx hlk Bd.returns (t := .boolean) (by simp) (hb hby own_d_prog_20_method_6_code_38) (by decide) (by decide) ⟨rfl, N0, e1⟩
def Q_a12_endsLine (Z : State) (h0 : Heap) (n0 : Nat) (v : Option Value) (h : Heap) (L : List Loc) : Prop := v = some (.int (0 : Int32)) ∧ Fr n0 L ∧ h = h0
set_option maxRecDepth 65536 in
set_option maxHeartbeats 40000000 in
theorem rm_a12_endsLine (l : Launch) (Z : State) (a0 : Array Value) (hw : ∀ d ∈ tables_1, d.before a0 Z = true) (ws : List Jvm.Cond) (r_V1_0 : Addr) (r_V1_1 : Addr) (h0 : Heap) (n0 : Nat) (Z0 : n0 ≤ h0.size) (S_V1_1 : Sta Z h0 "com/example/fitzroy/fitzroy/XmlVersion" "V1_1" "Lcom/example/fitzroy/fitzroy/XmlVersion;" (.ref r_V1_1)) (ne_V1_0_V1_1 : r_V1_0 ≠ r_V1_1) :
    MetFree l (⟨"com/example/fitzroy/fitzroy/XmlVersion", "endsLine", "(I)Z"⟩ : MethodName) (head1 (Jvm.Cond.code (⟨"com/example/fitzroy/fitzroy/XmlVersion", "endsLine", "(I)Z"⟩ : MethodName) prog_20_method_6_code 2 (some .boolean) :: ws) ({ frames := 0, cells := 0, slots := 0, locals := 0 } : Room)) (fun aA U => aA = #[(.ref r_V1_0), (.int (8233 : Int32))] ∧ Z.Warmed39 U.vm ∧ U.heap = h0) (fun _ _ _ _ _ => True) (fun _ U o U' => ∃ v L, o = .returned v ∧ Q_a12_endsLine Z h0 n0 v U'.heap L ∧ FrameEnd U o U' L ({ frames := 0, cells := 0, slots := 0, locals := 0 } : Room).cells ({ frames := 0, cells := 0, slots := 0, locals := 0 } : Room).slots) := by
  refine MetFree.of_bodySF (plainFor_of_name own_pn_com_example_fitzroy_fitzroy_XmlVersion) hisR ?_
  intro p e s m args below meth c s₁ Bd hml0 hP hK
  obtain ⟨rfl, hZ, hh⟩ := hP
  have hx := Bd.exec
  have hby := Bd.bytes
  have hlk : meth.locks = false := BodyLoose.notSynchronized Bd
  have hml : c.maxLocals = 2 := hml0
  have hown : s.vm.findClass "com/example/fitzroy/fitzroy/XmlVersion" = some m.cls := findClass_of_methodNamed Bd.named
  have hnm := (name_of_methodNamed Bd.named Bd.method).1
  have X0 : Stand p l e ({ frames := 0, cells := 0, slots := 0, locals := 0 } : Room) s m #[(.ref r_V1_0), (.int (8233 : Int32))] below meth c s₁ [] 0 0 := Stand.of_body Bd
  have e0 : s₁.heap = h0 := by rw [← hh, Bd.state]; rfl
  have N0 := Fr.nil n0
  show own_Go p e below (own_K s (Q_a12_endsLine Z h0 n0) ({ frames := 0, cells := 0, slots := 0, locals := 0 } : Room).cells ({ frames := 0, cells := 0, slots := 0, locals := 0 } : Room).slots) (s₁.setTop (entryFrame m #[(.ref r_V1_0), (.int (8233 : Int32))] 2))
  rw [(by first | (simp [entryFrame, mkF, argsToLocals, Value.category]; done) | rfl : entryFrame m #[(.ref r_V1_0), (.int (8233 : Int32))] 2 = mkF m 0 #[.val (.ref r_V1_0), .val (.int (8233 : Int32))] [])]
  show own_Go p e below _ (s₁.setTop (mkF m 0 #[.val (.ref r_V1_0), .val (.int (8233 : Int32))] []))
  refine own_go (fun _ hr => XS.iloadN X0.here hx rfl (hb hby own_d_prog_20_method_6_code_0) rfl (XS.bipush X0.here hx rfl (hb hby own_d_prog_20_method_6_code_1) (XS.icmpNo X0.here hx rfl (hb hby own_d_prog_20_method_6_code_3) rfl (feq (by decide)).1 (XS.iloadN X0.here hx rfl (hb hby own_d_prog_20_method_6_code_6) rfl (XS.bipush X0.here hx rfl (hb hby own_d_prog_20_method_6_code_7) (XS.icmpNo X0.here hx rfl (hb hby own_d_prog_20_method_6_code_9) rfl (feq (by decide)).1 (XS.aloadN X0.here hx rfl (hb hby own_d_prog_20_method_6_code_12) rfl rfl hr))))))) ?_
  show own_Go p e below _ (s₁.setTop (mkF m 13 #[.val (.ref r_V1_0), .val (.int (8233 : Int32))] [(.ref r_V1_0)]))
  obtain ⟨T1, X1, e1, st1⟩ := getS2 X0 hx hZ hown (host := "") (Or.inl (hw _ (own_m 10 rfl))) Via.refl e0 S_V1_1 (g := (mkF m 13 #[.val (.ref r_V1_0), .val (.int (8233 : Int32))] [(.ref r_V1_0)])) rfl (hb hby own_d_prog_20_method_6_code_13)
  refine own_go st1 ?_
  show own_Go p e below _ (T1.setTop (mkF m 16 #[.val (.ref r_V1_0), .val (.int (8233 : Int32))] [(.ref r_V1_1), (.ref r_V1_0)]))
  refine own_go (fun _ hr => Jvm.RoadKit.acmp X1 hx rfl rfl rfl (pc0 := 16) (pc' := 37) (same := false) rfl (hb hby own_d_prog_20_method_6_code_16) rfl (decide_eq_false fun q => ne_V1_0_V1_1 (Value.ref.inj q)) (by decide) (by decide) hr) ?_
  show own_Go p e below _ (T1.setTop (mkF m 37 #[.val (.ref r_V1_0), .val (.int (8233 : Int32))] []))
  refine own_go (fun _ hr => XS.iconst X1.here hx rfl (hb hby own_d_prog_20_method_6_code_37) hr) ?_
  show own_Go p e below _ (T1.setTop (mkF m 38 #[.val (.ref r_V1_0), .val (.int (8233 : Int32))] [(.int (0 : Int32))]))
  exact own_retN X1 hx hlk Bd.returns (t := .boolean) (by simp) (hb hby own_d_prog_20_method_6_code_38) (by decide) (by decide) ⟨rfl, N0, e1⟩
def Q_a13_endsLine (Z : State) (h0 : Heap) (n0 : Nat) (v : Option Value) (h : Heap) (L : List Loc) : Prop := v = some (.int (0 : Int32)) ∧ Fr n0 L ∧ h = h0
set_option maxRecDepth 65536 in
set_option maxHeartbeats 40000000 in
theorem rm_a13_endsLine (l : Launch) (Z : State) (a0 : Array Value) (hw : ∀ d ∈ tables_1, d.before a0 Z = true) (ws : List Jvm.Cond) (r_V1_1 : Addr) (h0 : Heap) (n0 : Nat) (Z0 : n0 ≤ h0.size) (S_V1_1 : Sta Z h0 "com/example/fitzroy/fitzroy/XmlVersion" "V1_1" "Lcom/example/fitzroy/fitzroy/XmlVersion;" (.ref r_V1_1)) :
    MetFree l (⟨"com/example/fitzroy/fitzroy/XmlVersion", "endsLine", "(I)Z"⟩ : MethodName) (head1 (Jvm.Cond.code (⟨"com/example/fitzroy/fitzroy/XmlVersion", "endsLine", "(I)Z"⟩ : MethodName) prog_20_method_6_code 2 (some .boolean) :: ws) ({ frames := 0, cells := 0, slots := 0, locals := 0 } : Room)) (fun aA U => aA = #[(.ref r_V1_1), (.int (9 : Int32))] ∧ Z.Warmed39 U.vm ∧ U.heap = h0) (fun _ _ _ _ _ => True) (fun _ U o U' => ∃ v L, o = .returned v ∧ Q_a13_endsLine Z h0 n0 v U'.heap L ∧ FrameEnd U o U' L ({ frames := 0, cells := 0, slots := 0, locals := 0 } : Room).cells ({ frames := 0, cells := 0, slots := 0, locals := 0 } : Room).slots) := by
  refine MetFree.of_bodySF (plainFor_of_name own_pn_com_example_fitzroy_fitzroy_XmlVersion) hisR ?_
  intro p e s m args below meth c s₁ Bd hml0 hP hK
  obtain ⟨rfl, hZ, hh⟩ := hP
  have hx := Bd.exec
  have hby := Bd.bytes
  have hlk : meth.locks = false := BodyLoose.notSynchronized Bd
  have hml : c.maxLocals = 2 := hml0
  have hown : s.vm.findClass "com/example/fitzroy/fitzroy/XmlVersion" = some m.cls := findClass_of_methodNamed Bd.named
  have hnm := (name_of_methodNamed Bd.named Bd.method).1
  have X0 : Stand p l e ({ frames := 0, cells := 0, slots := 0, locals := 0 } : Room) s m #[(.ref r_V1_1), (.int (9 : Int32))] below meth c s₁ [] 0 0 := Stand.of_body Bd
  have e0 : s₁.heap = h0 := by rw [← hh, Bd.state]; rfl
  have N0 := Fr.nil n0
  show own_Go p e below (own_K s (Q_a13_endsLine Z h0 n0) ({ frames := 0, cells := 0, slots := 0, locals := 0 } : Room).cells ({ frames := 0, cells := 0, slots := 0, locals := 0 } : Room).slots) (s₁.setTop (entryFrame m #[(.ref r_V1_1), (.int (9 : Int32))] 2))
  rw [(by first | (simp [entryFrame, mkF, argsToLocals, Value.category]; done) | rfl : entryFrame m #[(.ref r_V1_1), (.int (9 : Int32))] 2 = mkF m 0 #[.val (.ref r_V1_1), .val (.int (9 : Int32))] [])]
  show own_Go p e below _ (s₁.setTop (mkF m 0 #[.val (.ref r_V1_1), .val (.int (9 : Int32))] []))
  refine own_go (fun _ hr => XS.iloadN X0.here hx rfl (hb hby own_d_prog_20_method_6_code_0) rfl (XS.bipush X0.here hx rfl (hb hby own_d_prog_20_method_6_code_1) (XS.icmpNo X0.here hx rfl (hb hby own_d_prog_20_method_6_code_3) rfl (feq (by decide)).1 (XS.iloadN X0.here hx rfl (hb hby own_d_prog_20_method_6_code_6) rfl (XS.bipush X0.here hx rfl (hb hby own_d_prog_20_method_6_code_7) (XS.icmpNo X0.here hx rfl (hb hby own_d_prog_20_method_6_code_9) rfl (feq (by decide)).1 (XS.aloadN X0.here hx rfl (hb hby own_d_prog_20_method_6_code_12) rfl rfl hr))))))) ?_
  show own_Go p e below _ (s₁.setTop (mkF m 13 #[.val (.ref r_V1_1), .val (.int (9 : Int32))] [(.ref r_V1_1)]))
  obtain ⟨T1, X1, e1, st1⟩ := getS2 X0 hx hZ hown (host := "") (Or.inl (hw _ (own_m 10 rfl))) Via.refl e0 S_V1_1 (g := (mkF m 13 #[.val (.ref r_V1_1), .val (.int (9 : Int32))] [(.ref r_V1_1)])) rfl (hb hby own_d_prog_20_method_6_code_13)
  refine own_go st1 ?_
  show own_Go p e below _ (T1.setTop (mkF m 16 #[.val (.ref r_V1_1), .val (.int (9 : Int32))] [(.ref r_V1_1), (.ref r_V1_1)]))
  refine own_go (fun _ hr => Jvm.RoadKit.acmp X1 hx rfl rfl rfl (pc0 := 16) (pc' := 19) (same := true) rfl (hb hby own_d_prog_20_method_6_code_16) rfl (decide_eq_true rfl) (by decide) (by decide) hr) ?_
  show own_Go p e below _ (T1.setTop (mkF m 19 #[.val (.ref r_V1_1), .val (.int (9 : Int32))] []))
  refine own_go (fun _ hr => XS.iloadN X1.here hx rfl (hb hby own_d_prog_20_method_6_code_19) rfl (XS.sipush X1.here hx rfl (hb hby own_d_prog_20_method_6_code_20) (XS.icmpNo X1.here hx rfl (hb hby own_d_prog_20_method_6_code_23) rfl (feq (by decide)).1 (XS.iloadN X1.here hx rfl (hb hby own_d_prog_20_method_6_code_26) rfl (XS.sipush X1.here hx rfl (hb hby own_d_prog_20_method_6_code_27) (XS.icmpYes X1.here hx rfl (pc0 := 30) (pc' := 37) rfl (hb hby own_d_prog_20_method_6_code_30) rfl (feq (by decide)).2 (by decide) (by decide) (XS.iconst X1.here hx rfl (hb hby own_d_prog_20_method_6_code_37) hr))))))) ?_
  show own_Go p e below _ (T1.setTop (mkF m 38 #[.val (.ref r_V1_1), .val (.int (9 : Int32))] [(.int (0 : Int32))]))
  exact own_retN X1 hx hlk Bd.returns (t := .boolean) (by simp) (hb hby own_d_prog_20_method_6_code_38) (by decide) (by decide) ⟨rfl, N0, e1⟩
def Q_a14_endsLine (Z : State) (h0 : Heap) (n0 : Nat) (v : Option Value) (h : Heap) (L : List Loc) : Prop := v = some (.int (1 : Int32)) ∧ Fr n0 L ∧ h = h0
set_option maxRecDepth 65536 in
set_option maxHeartbeats 40000000 in
theorem rm_a14_endsLine (l : Launch) (Z : State) (a0 : Array Value) (hw : ∀ d ∈ tables_1, d.before a0 Z = true) (ws : List Jvm.Cond) (r_V1_1 : Addr) (h0 : Heap) (n0 : Nat) (Z0 : n0 ≤ h0.size) :
    MetFree l (⟨"com/example/fitzroy/fitzroy/XmlVersion", "endsLine", "(I)Z"⟩ : MethodName) (head1 (Jvm.Cond.code (⟨"com/example/fitzroy/fitzroy/XmlVersion", "endsLine", "(I)Z"⟩ : MethodName) prog_20_method_6_code 2 (some .boolean) :: ws) ({ frames := 0, cells := 0, slots := 0, locals := 0 } : Room)) (fun aA U => aA = #[(.ref r_V1_1), (.int (10 : Int32))] ∧ Z.Warmed39 U.vm ∧ U.heap = h0) (fun _ _ _ _ _ => True) (fun _ U o U' => ∃ v L, o = .returned v ∧ Q_a14_endsLine Z h0 n0 v U'.heap L ∧ FrameEnd U o U' L ({ frames := 0, cells := 0, slots := 0, locals := 0 } : Room).cells ({ frames := 0, cells := 0, slots := 0, locals := 0 } : Room).slots) := by
  refine MetFree.of_bodySF (plainFor_of_name own_pn_com_example_fitzroy_fitzroy_XmlVersion) hisR ?_
  intro p e s m args below meth c s₁ Bd hml0 hP hK
  obtain ⟨rfl, hZ, hh⟩ := hP
  have hx := Bd.exec
  have hby := Bd.bytes
  have hlk : meth.locks = false := BodyLoose.notSynchronized Bd
  have hml : c.maxLocals = 2 := hml0
  have hown : s.vm.findClass "com/example/fitzroy/fitzroy/XmlVersion" = some m.cls := findClass_of_methodNamed Bd.named
  have hnm := (name_of_methodNamed Bd.named Bd.method).1
  have X0 : Stand p l e ({ frames := 0, cells := 0, slots := 0, locals := 0 } : Room) s m #[(.ref r_V1_1), (.int (10 : Int32))] below meth c s₁ [] 0 0 := Stand.of_body Bd
  have e0 : s₁.heap = h0 := by rw [← hh, Bd.state]; rfl
  have N0 := Fr.nil n0
  show own_Go p e below (own_K s (Q_a14_endsLine Z h0 n0) ({ frames := 0, cells := 0, slots := 0, locals := 0 } : Room).cells ({ frames := 0, cells := 0, slots := 0, locals := 0 } : Room).slots) (s₁.setTop (entryFrame m #[(.ref r_V1_1), (.int (10 : Int32))] 2))
  rw [(by first | (simp [entryFrame, mkF, argsToLocals, Value.category]; done) | rfl : entryFrame m #[(.ref r_V1_1), (.int (10 : Int32))] 2 = mkF m 0 #[.val (.ref r_V1_1), .val (.int (10 : Int32))] [])]
  show own_Go p e below _ (s₁.setTop (mkF m 0 #[.val (.ref r_V1_1), .val (.int (10 : Int32))] []))
  refine own_go (fun _ hr => XS.iloadN X0.here hx rfl (hb hby own_d_prog_20_method_6_code_0) rfl (XS.bipush X0.here hx rfl (hb hby own_d_prog_20_method_6_code_1) (XS.icmpYes X0.here hx rfl (pc0 := 3) (pc' := 33) rfl (hb hby own_d_prog_20_method_6_code_3) rfl (teq (by decide)).1 (by decide) (by decide) (XS.iconst X0.here hx rfl (hb hby own_d_prog_20_method_6_code_33) (XS.goto X0.here hx rfl (pc0 := 34) (pc' := 38) rfl (hb hby own_d_prog_20_method_6_code_34) (by decide) (by decide) hr))))) ?_
  show own_Go p e below _ (s₁.setTop (mkF m 38 #[.val (.ref r_V1_1), .val (.int (10 : Int32))] [(.int (1 : Int32))]))
  exact own_retN X0 hx hlk Bd.returns (t := .boolean) (by simp) (hb hby own_d_prog_20_method_6_code_38) (by decide) (by decide) ⟨rfl, N0, e0⟩
def Q_a15_endsLine (Z : State) (h0 : Heap) (n0 : Nat) (v : Option Value) (h : Heap) (L : List Loc) : Prop := v = some (.int (0 : Int32)) ∧ Fr n0 L ∧ h = h0
set_option maxRecDepth 65536 in
set_option maxHeartbeats 40000000 in
theorem rm_a15_endsLine (l : Launch) (Z : State) (a0 : Array Value) (hw : ∀ d ∈ tables_1, d.before a0 Z = true) (ws : List Jvm.Cond) (r_V1_1 : Addr) (h0 : Heap) (n0 : Nat) (Z0 : n0 ≤ h0.size) (S_V1_1 : Sta Z h0 "com/example/fitzroy/fitzroy/XmlVersion" "V1_1" "Lcom/example/fitzroy/fitzroy/XmlVersion;" (.ref r_V1_1)) :
    MetFree l (⟨"com/example/fitzroy/fitzroy/XmlVersion", "endsLine", "(I)Z"⟩ : MethodName) (head1 (Jvm.Cond.code (⟨"com/example/fitzroy/fitzroy/XmlVersion", "endsLine", "(I)Z"⟩ : MethodName) prog_20_method_6_code 2 (some .boolean) :: ws) ({ frames := 0, cells := 0, slots := 0, locals := 0 } : Room)) (fun aA U => aA = #[(.ref r_V1_1), (.int (11 : Int32))] ∧ Z.Warmed39 U.vm ∧ U.heap = h0) (fun _ _ _ _ _ => True) (fun _ U o U' => ∃ v L, o = .returned v ∧ Q_a15_endsLine Z h0 n0 v U'.heap L ∧ FrameEnd U o U' L ({ frames := 0, cells := 0, slots := 0, locals := 0 } : Room).cells ({ frames := 0, cells := 0, slots := 0, locals := 0 } : Room).slots) := by
  refine MetFree.of_bodySF (plainFor_of_name own_pn_com_example_fitzroy_fitzroy_XmlVersion) hisR ?_
  intro p e s m args below meth c s₁ Bd hml0 hP hK
  obtain ⟨rfl, hZ, hh⟩ := hP
  have hx := Bd.exec
  have hby := Bd.bytes
  have hlk : meth.locks = false := BodyLoose.notSynchronized Bd
  have hml : c.maxLocals = 2 := hml0
  have hown : s.vm.findClass "com/example/fitzroy/fitzroy/XmlVersion" = some m.cls := findClass_of_methodNamed Bd.named
  have hnm := (name_of_methodNamed Bd.named Bd.method).1
  have X0 : Stand p l e ({ frames := 0, cells := 0, slots := 0, locals := 0 } : Room) s m #[(.ref r_V1_1), (.int (11 : Int32))] below meth c s₁ [] 0 0 := Stand.of_body Bd
  have e0 : s₁.heap = h0 := by rw [← hh, Bd.state]; rfl
  have N0 := Fr.nil n0
  show own_Go p e below (own_K s (Q_a15_endsLine Z h0 n0) ({ frames := 0, cells := 0, slots := 0, locals := 0 } : Room).cells ({ frames := 0, cells := 0, slots := 0, locals := 0 } : Room).slots) (s₁.setTop (entryFrame m #[(.ref r_V1_1), (.int (11 : Int32))] 2))
  rw [(by first | (simp [entryFrame, mkF, argsToLocals, Value.category]; done) | rfl : entryFrame m #[(.ref r_V1_1), (.int (11 : Int32))] 2 = mkF m 0 #[.val (.ref r_V1_1), .val (.int (11 : Int32))] [])]
  show own_Go p e below _ (s₁.setTop (mkF m 0 #[.val (.ref r_V1_1), .val (.int (11 : Int32))] []))
  refine own_go (fun _ hr => XS.iloadN X0.here hx rfl (hb hby own_d_prog_20_method_6_code_0) rfl (XS.bipush X0.here hx rfl (hb hby own_d_prog_20_method_6_code_1) (XS.icmpNo X0.here hx rfl (hb hby own_d_prog_20_method_6_code_3) rfl (feq (by decide)).1 (XS.iloadN X0.here hx rfl (hb hby own_d_prog_20_method_6_code_6) rfl (XS.bipush X0.here hx rfl (hb hby own_d_prog_20_method_6_code_7) (XS.icmpNo X0.here hx rfl (hb hby own_d_prog_20_method_6_code_9) rfl (feq (by decide)).1 (XS.aloadN X0.here hx rfl (hb hby own_d_prog_20_method_6_code_12) rfl rfl hr))))))) ?_
  show own_Go p e below _ (s₁.setTop (mkF m 13 #[.val (.ref r_V1_1), .val (.int (11 : Int32))] [(.ref r_V1_1)]))
  obtain ⟨T1, X1, e1, st1⟩ := getS2 X0 hx hZ hown (host := "") (Or.inl (hw _ (own_m 10 rfl))) Via.refl e0 S_V1_1 (g := (mkF m 13 #[.val (.ref r_V1_1), .val (.int (11 : Int32))] [(.ref r_V1_1)])) rfl (hb hby own_d_prog_20_method_6_code_13)
  refine own_go st1 ?_
  show own_Go p e below _ (T1.setTop (mkF m 16 #[.val (.ref r_V1_1), .val (.int (11 : Int32))] [(.ref r_V1_1), (.ref r_V1_1)]))
  refine own_go (fun _ hr => Jvm.RoadKit.acmp X1 hx rfl rfl rfl (pc0 := 16) (pc' := 19) (same := true) rfl (hb hby own_d_prog_20_method_6_code_16) rfl (decide_eq_true rfl) (by decide) (by decide) hr) ?_
  show own_Go p e below _ (T1.setTop (mkF m 19 #[.val (.ref r_V1_1), .val (.int (11 : Int32))] []))
  refine own_go (fun _ hr => XS.iloadN X1.here hx rfl (hb hby own_d_prog_20_method_6_code_19) rfl (XS.sipush X1.here hx rfl (hb hby own_d_prog_20_method_6_code_20) (XS.icmpNo X1.here hx rfl (hb hby own_d_prog_20_method_6_code_23) rfl (feq (by decide)).1 (XS.iloadN X1.here hx rfl (hb hby own_d_prog_20_method_6_code_26) rfl (XS.sipush X1.here hx rfl (hb hby own_d_prog_20_method_6_code_27) (XS.icmpYes X1.here hx rfl (pc0 := 30) (pc' := 37) rfl (hb hby own_d_prog_20_method_6_code_30) rfl (feq (by decide)).2 (by decide) (by decide) (XS.iconst X1.here hx rfl (hb hby own_d_prog_20_method_6_code_37) hr))))))) ?_
  show own_Go p e below _ (T1.setTop (mkF m 38 #[.val (.ref r_V1_1), .val (.int (11 : Int32))] [(.int (0 : Int32))]))
  exact own_retN X1 hx hlk Bd.returns (t := .boolean) (by simp) (hb hby own_d_prog_20_method_6_code_38) (by decide) (by decide) ⟨rfl, N0, e1⟩
def Q_a16_endsLine (Z : State) (h0 : Heap) (n0 : Nat) (v : Option Value) (h : Heap) (L : List Loc) : Prop := v = some (.int (0 : Int32)) ∧ Fr n0 L ∧ h = h0
set_option maxRecDepth 65536 in
set_option maxHeartbeats 40000000 in
theorem rm_a16_endsLine (l : Launch) (Z : State) (a0 : Array Value) (hw : ∀ d ∈ tables_1, d.before a0 Z = true) (ws : List Jvm.Cond) (r_V1_1 : Addr) (h0 : Heap) (n0 : Nat) (Z0 : n0 ≤ h0.size) (S_V1_1 : Sta Z h0 "com/example/fitzroy/fitzroy/XmlVersion" "V1_1" "Lcom/example/fitzroy/fitzroy/XmlVersion;" (.ref r_V1_1)) :
    MetFree l (⟨"com/example/fitzroy/fitzroy/XmlVersion", "endsLine", "(I)Z"⟩ : MethodName) (head1 (Jvm.Cond.code (⟨"com/example/fitzroy/fitzroy/XmlVersion", "endsLine", "(I)Z"⟩ : MethodName) prog_20_method_6_code 2 (some .boolean) :: ws) ({ frames := 0, cells := 0, slots := 0, locals := 0 } : Room)) (fun aA U => aA = #[(.ref r_V1_1), (.int (12 : Int32))] ∧ Z.Warmed39 U.vm ∧ U.heap = h0) (fun _ _ _ _ _ => True) (fun _ U o U' => ∃ v L, o = .returned v ∧ Q_a16_endsLine Z h0 n0 v U'.heap L ∧ FrameEnd U o U' L ({ frames := 0, cells := 0, slots := 0, locals := 0 } : Room).cells ({ frames := 0, cells := 0, slots := 0, locals := 0 } : Room).slots) := by
  refine MetFree.of_bodySF (plainFor_of_name own_pn_com_example_fitzroy_fitzroy_XmlVersion) hisR ?_
  intro p e s m args below meth c s₁ Bd hml0 hP hK
  obtain ⟨rfl, hZ, hh⟩ := hP
  have hx := Bd.exec
  have hby := Bd.bytes
  have hlk : meth.locks = false := BodyLoose.notSynchronized Bd
  have hml : c.maxLocals = 2 := hml0
  have hown : s.vm.findClass "com/example/fitzroy/fitzroy/XmlVersion" = some m.cls := findClass_of_methodNamed Bd.named
  have hnm := (name_of_methodNamed Bd.named Bd.method).1
  have X0 : Stand p l e ({ frames := 0, cells := 0, slots := 0, locals := 0 } : Room) s m #[(.ref r_V1_1), (.int (12 : Int32))] below meth c s₁ [] 0 0 := Stand.of_body Bd
  have e0 : s₁.heap = h0 := by rw [← hh, Bd.state]; rfl
  have N0 := Fr.nil n0
  show own_Go p e below (own_K s (Q_a16_endsLine Z h0 n0) ({ frames := 0, cells := 0, slots := 0, locals := 0 } : Room).cells ({ frames := 0, cells := 0, slots := 0, locals := 0 } : Room).slots) (s₁.setTop (entryFrame m #[(.ref r_V1_1), (.int (12 : Int32))] 2))
  rw [(by first | (simp [entryFrame, mkF, argsToLocals, Value.category]; done) | rfl : entryFrame m #[(.ref r_V1_1), (.int (12 : Int32))] 2 = mkF m 0 #[.val (.ref r_V1_1), .val (.int (12 : Int32))] [])]
  show own_Go p e below _ (s₁.setTop (mkF m 0 #[.val (.ref r_V1_1), .val (.int (12 : Int32))] []))
  refine own_go (fun _ hr => XS.iloadN X0.here hx rfl (hb hby own_d_prog_20_method_6_code_0) rfl (XS.bipush X0.here hx rfl (hb hby own_d_prog_20_method_6_code_1) (XS.icmpNo X0.here hx rfl (hb hby own_d_prog_20_method_6_code_3) rfl (feq (by decide)).1 (XS.iloadN X0.here hx rfl (hb hby own_d_prog_20_method_6_code_6) rfl (XS.bipush X0.here hx rfl (hb hby own_d_prog_20_method_6_code_7) (XS.icmpNo X0.here hx rfl (hb hby own_d_prog_20_method_6_code_9) rfl (feq (by decide)).1 (XS.aloadN X0.here hx rfl (hb hby own_d_prog_20_method_6_code_12) rfl rfl hr))))))) ?_
  show own_Go p e below _ (s₁.setTop (mkF m 13 #[.val (.ref r_V1_1), .val (.int (12 : Int32))] [(.ref r_V1_1)]))
  obtain ⟨T1, X1, e1, st1⟩ := getS2 X0 hx hZ hown (host := "") (Or.inl (hw _ (own_m 10 rfl))) Via.refl e0 S_V1_1 (g := (mkF m 13 #[.val (.ref r_V1_1), .val (.int (12 : Int32))] [(.ref r_V1_1)])) rfl (hb hby own_d_prog_20_method_6_code_13)
  refine own_go st1 ?_
  show own_Go p e below _ (T1.setTop (mkF m 16 #[.val (.ref r_V1_1), .val (.int (12 : Int32))] [(.ref r_V1_1), (.ref r_V1_1)]))
  refine own_go (fun _ hr => Jvm.RoadKit.acmp X1 hx rfl rfl rfl (pc0 := 16) (pc' := 19) (same := true) rfl (hb hby own_d_prog_20_method_6_code_16) rfl (decide_eq_true rfl) (by decide) (by decide) hr) ?_
  show own_Go p e below _ (T1.setTop (mkF m 19 #[.val (.ref r_V1_1), .val (.int (12 : Int32))] []))
  refine own_go (fun _ hr => XS.iloadN X1.here hx rfl (hb hby own_d_prog_20_method_6_code_19) rfl (XS.sipush X1.here hx rfl (hb hby own_d_prog_20_method_6_code_20) (XS.icmpNo X1.here hx rfl (hb hby own_d_prog_20_method_6_code_23) rfl (feq (by decide)).1 (XS.iloadN X1.here hx rfl (hb hby own_d_prog_20_method_6_code_26) rfl (XS.sipush X1.here hx rfl (hb hby own_d_prog_20_method_6_code_27) (XS.icmpYes X1.here hx rfl (pc0 := 30) (pc' := 37) rfl (hb hby own_d_prog_20_method_6_code_30) rfl (feq (by decide)).2 (by decide) (by decide) (XS.iconst X1.here hx rfl (hb hby own_d_prog_20_method_6_code_37) hr))))))) ?_
  show own_Go p e below _ (T1.setTop (mkF m 38 #[.val (.ref r_V1_1), .val (.int (12 : Int32))] [(.int (0 : Int32))]))
  exact own_retN X1 hx hlk Bd.returns (t := .boolean) (by simp) (hb hby own_d_prog_20_method_6_code_38) (by decide) (by decide) ⟨rfl, N0, e1⟩
def Q_a17_endsLine (Z : State) (h0 : Heap) (n0 : Nat) (v : Option Value) (h : Heap) (L : List Loc) : Prop := v = some (.int (1 : Int32)) ∧ Fr n0 L ∧ h = h0
set_option maxRecDepth 65536 in
set_option maxHeartbeats 40000000 in
theorem rm_a17_endsLine (l : Launch) (Z : State) (a0 : Array Value) (hw : ∀ d ∈ tables_1, d.before a0 Z = true) (ws : List Jvm.Cond) (r_V1_1 : Addr) (h0 : Heap) (n0 : Nat) (Z0 : n0 ≤ h0.size) :
    MetFree l (⟨"com/example/fitzroy/fitzroy/XmlVersion", "endsLine", "(I)Z"⟩ : MethodName) (head1 (Jvm.Cond.code (⟨"com/example/fitzroy/fitzroy/XmlVersion", "endsLine", "(I)Z"⟩ : MethodName) prog_20_method_6_code 2 (some .boolean) :: ws) ({ frames := 0, cells := 0, slots := 0, locals := 0 } : Room)) (fun aA U => aA = #[(.ref r_V1_1), (.int (13 : Int32))] ∧ Z.Warmed39 U.vm ∧ U.heap = h0) (fun _ _ _ _ _ => True) (fun _ U o U' => ∃ v L, o = .returned v ∧ Q_a17_endsLine Z h0 n0 v U'.heap L ∧ FrameEnd U o U' L ({ frames := 0, cells := 0, slots := 0, locals := 0 } : Room).cells ({ frames := 0, cells := 0, slots := 0, locals := 0 } : Room).slots) := by
  refine MetFree.of_bodySF (plainFor_of_name own_pn_com_example_fitzroy_fitzroy_XmlVersion) hisR ?_
  intro p e s m args below meth c s₁ Bd hml0 hP hK
  obtain ⟨rfl, hZ, hh⟩ := hP
  have hx := Bd.exec
  have hby := Bd.bytes
  have hlk : meth.locks = false := BodyLoose.notSynchronized Bd
  have hml : c.maxLocals = 2 := hml0
  have hown : s.vm.findClass "com/example/fitzroy/fitzroy/XmlVersion" = some m.cls := findClass_of_methodNamed Bd.named
  have hnm := (name_of_methodNamed Bd.named Bd.method).1
  have X0 : Stand p l e ({ frames := 0, cells := 0, slots := 0, locals := 0 } : Room) s m #[(.ref r_V1_1), (.int (13 : Int32))] below meth c s₁ [] 0 0 := Stand.of_body Bd
  have e0 : s₁.heap = h0 := by rw [← hh, Bd.state]; rfl
  have N0 := Fr.nil n0
  show own_Go p e below (own_K s (Q_a17_endsLine Z h0 n0) ({ frames := 0, cells := 0, slots := 0, locals := 0 } : Room).cells ({ frames := 0, cells := 0, slots := 0, locals := 0 } : Room).slots) (s₁.setTop (entryFrame m #[(.ref r_V1_1), (.int (13 : Int32))] 2))
  rw [(by first | (simp [entryFrame, mkF, argsToLocals, Value.category]; done) | rfl : entryFrame m #[(.ref r_V1_1), (.int (13 : Int32))] 2 = mkF m 0 #[.val (.ref r_V1_1), .val (.int (13 : Int32))] [])]
  show own_Go p e below _ (s₁.setTop (mkF m 0 #[.val (.ref r_V1_1), .val (.int (13 : Int32))] []))
  refine own_go (fun _ hr => XS.iloadN X0.here hx rfl (hb hby own_d_prog_20_method_6_code_0) rfl (XS.bipush X0.here hx rfl (hb hby own_d_prog_20_method_6_code_1) (XS.icmpNo X0.here hx rfl (hb hby own_d_prog_20_method_6_code_3) rfl (feq (by decide)).1 (XS.iloadN X0.here hx rfl (hb hby own_d_prog_20_method_6_code_6) rfl (XS.bipush X0.here hx rfl (hb hby own_d_prog_20_method_6_code_7) (XS.icmpYes X0.here hx rfl (pc0 := 9) (pc' := 33) rfl (hb hby own_d_prog_20_method_6_code_9) rfl (teq (by decide)).1 (by decide) (by decide) (XS.iconst X0.here hx rfl (hb hby own_d_prog_20_method_6_code_33) (XS.goto X0.here hx rfl (pc0 := 34) (pc' := 38) rfl (hb hby own_d_prog_20_method_6_code_34) (by decide) (by decide) hr)))))))) ?_
  show own_Go p e below _ (s₁.setTop (mkF m 38 #[.val (.ref r_V1_1), .val (.int (13 : Int32))] [(.int (1 : Int32))]))
  exact own_retN X0 hx hlk Bd.returns (t := .boolean) (by simp) (hb hby own_d_prog_20_method_6_code_38) (by decide) (by decide) ⟨rfl, N0, e0⟩
def Q_a18_endsLine (Z : State) (h0 : Heap) (n0 : Nat) (v : Option Value) (h : Heap) (L : List Loc) : Prop := v = some (.int (0 : Int32)) ∧ Fr n0 L ∧ h = h0
set_option maxRecDepth 65536 in
set_option maxHeartbeats 40000000 in
theorem rm_a18_endsLine (l : Launch) (Z : State) (a0 : Array Value) (hw : ∀ d ∈ tables_1, d.before a0 Z = true) (ws : List Jvm.Cond) (r_V1_1 : Addr) (h0 : Heap) (n0 : Nat) (Z0 : n0 ≤ h0.size) (S_V1_1 : Sta Z h0 "com/example/fitzroy/fitzroy/XmlVersion" "V1_1" "Lcom/example/fitzroy/fitzroy/XmlVersion;" (.ref r_V1_1)) :
    MetFree l (⟨"com/example/fitzroy/fitzroy/XmlVersion", "endsLine", "(I)Z"⟩ : MethodName) (head1 (Jvm.Cond.code (⟨"com/example/fitzroy/fitzroy/XmlVersion", "endsLine", "(I)Z"⟩ : MethodName) prog_20_method_6_code 2 (some .boolean) :: ws) ({ frames := 0, cells := 0, slots := 0, locals := 0 } : Room)) (fun aA U => aA = #[(.ref r_V1_1), (.int (14 : Int32))] ∧ Z.Warmed39 U.vm ∧ U.heap = h0) (fun _ _ _ _ _ => True) (fun _ U o U' => ∃ v L, o = .returned v ∧ Q_a18_endsLine Z h0 n0 v U'.heap L ∧ FrameEnd U o U' L ({ frames := 0, cells := 0, slots := 0, locals := 0 } : Room).cells ({ frames := 0, cells := 0, slots := 0, locals := 0 } : Room).slots) := by
  refine MetFree.of_bodySF (plainFor_of_name own_pn_com_example_fitzroy_fitzroy_XmlVersion) hisR ?_
  intro p e s m args below meth c s₁ Bd hml0 hP hK
  obtain ⟨rfl, hZ, hh⟩ := hP
  have hx := Bd.exec
  have hby := Bd.bytes
  have hlk : meth.locks = false := BodyLoose.notSynchronized Bd
  have hml : c.maxLocals = 2 := hml0
  have hown : s.vm.findClass "com/example/fitzroy/fitzroy/XmlVersion" = some m.cls := findClass_of_methodNamed Bd.named
  have hnm := (name_of_methodNamed Bd.named Bd.method).1
  have X0 : Stand p l e ({ frames := 0, cells := 0, slots := 0, locals := 0 } : Room) s m #[(.ref r_V1_1), (.int (14 : Int32))] below meth c s₁ [] 0 0 := Stand.of_body Bd
  have e0 : s₁.heap = h0 := by rw [← hh, Bd.state]; rfl
  have N0 := Fr.nil n0
  show own_Go p e below (own_K s (Q_a18_endsLine Z h0 n0) ({ frames := 0, cells := 0, slots := 0, locals := 0 } : Room).cells ({ frames := 0, cells := 0, slots := 0, locals := 0 } : Room).slots) (s₁.setTop (entryFrame m #[(.ref r_V1_1), (.int (14 : Int32))] 2))
  rw [(by first | (simp [entryFrame, mkF, argsToLocals, Value.category]; done) | rfl : entryFrame m #[(.ref r_V1_1), (.int (14 : Int32))] 2 = mkF m 0 #[.val (.ref r_V1_1), .val (.int (14 : Int32))] [])]
  show own_Go p e below _ (s₁.setTop (mkF m 0 #[.val (.ref r_V1_1), .val (.int (14 : Int32))] []))
  refine own_go (fun _ hr => XS.iloadN X0.here hx rfl (hb hby own_d_prog_20_method_6_code_0) rfl (XS.bipush X0.here hx rfl (hb hby own_d_prog_20_method_6_code_1) (XS.icmpNo X0.here hx rfl (hb hby own_d_prog_20_method_6_code_3) rfl (feq (by decide)).1 (XS.iloadN X0.here hx rfl (hb hby own_d_prog_20_method_6_code_6) rfl (XS.bipush X0.here hx rfl (hb hby own_d_prog_20_method_6_code_7) (XS.icmpNo X0.here hx rfl (hb hby own_d_prog_20_method_6_code_9) rfl (feq (by decide)).1 (XS.aloadN X0.here hx rfl (hb hby own_d_prog_20_method_6_code_12) rfl rfl hr))))))) ?_
  show own_Go p e below _ (s₁.setTop (mkF m 13 #[.val (.ref r_V1_1), .val (.int (14 : Int32))] [(.ref r_V1_1)]))
  obtain ⟨T1, X1, e1, st1⟩ := getS2 X0 hx hZ hown (host := "") (Or.inl (hw _ (own_m 10 rfl))) Via.refl e0 S_V1_1 (g := (mkF m 13 #[.val (.ref r_V1_1), .val (.int (14 : Int32))] [(.ref r_V1_1)])) rfl (hb hby own_d_prog_20_method_6_code_13)
  refine own_go st1 ?_
  show own_Go p e below _ (T1.setTop (mkF m 16 #[.val (.ref r_V1_1), .val (.int (14 : Int32))] [(.ref r_V1_1), (.ref r_V1_1)]))
  refine own_go (fun _ hr => Jvm.RoadKit.acmp X1 hx rfl rfl rfl (pc0 := 16) (pc' := 19) (same := true) rfl (hb hby own_d_prog_20_method_6_code_16) rfl (decide_eq_true rfl) (by decide) (by decide) hr) ?_
  show own_Go p e below _ (T1.setTop (mkF m 19 #[.val (.ref r_V1_1), .val (.int (14 : Int32))] []))
  refine own_go (fun _ hr => XS.iloadN X1.here hx rfl (hb hby own_d_prog_20_method_6_code_19) rfl (XS.sipush X1.here hx rfl (hb hby own_d_prog_20_method_6_code_20) (XS.icmpNo X1.here hx rfl (hb hby own_d_prog_20_method_6_code_23) rfl (feq (by decide)).1 (XS.iloadN X1.here hx rfl (hb hby own_d_prog_20_method_6_code_26) rfl (XS.sipush X1.here hx rfl (hb hby own_d_prog_20_method_6_code_27) (XS.icmpYes X1.here hx rfl (pc0 := 30) (pc' := 37) rfl (hb hby own_d_prog_20_method_6_code_30) rfl (feq (by decide)).2 (by decide) (by decide) (XS.iconst X1.here hx rfl (hb hby own_d_prog_20_method_6_code_37) hr))))))) ?_
  show own_Go p e below _ (T1.setTop (mkF m 38 #[.val (.ref r_V1_1), .val (.int (14 : Int32))] [(.int (0 : Int32))]))
  exact own_retN X1 hx hlk Bd.returns (t := .boolean) (by simp) (hb hby own_d_prog_20_method_6_code_38) (by decide) (by decide) ⟨rfl, N0, e1⟩
def Q_a19_endsLine (Z : State) (h0 : Heap) (n0 : Nat) (v : Option Value) (h : Heap) (L : List Loc) : Prop := v = some (.int (0 : Int32)) ∧ Fr n0 L ∧ h = h0
set_option maxRecDepth 65536 in
set_option maxHeartbeats 40000000 in
theorem rm_a19_endsLine (l : Launch) (Z : State) (a0 : Array Value) (hw : ∀ d ∈ tables_1, d.before a0 Z = true) (ws : List Jvm.Cond) (r_V1_1 : Addr) (h0 : Heap) (n0 : Nat) (Z0 : n0 ≤ h0.size) (S_V1_1 : Sta Z h0 "com/example/fitzroy/fitzroy/XmlVersion" "V1_1" "Lcom/example/fitzroy/fitzroy/XmlVersion;" (.ref r_V1_1)) :
    MetFree l (⟨"com/example/fitzroy/fitzroy/XmlVersion", "endsLine", "(I)Z"⟩ : MethodName) (head1 (Jvm.Cond.code (⟨"com/example/fitzroy/fitzroy/XmlVersion", "endsLine", "(I)Z"⟩ : MethodName) prog_20_method_6_code 2 (some .boolean) :: ws) ({ frames := 0, cells := 0, slots := 0, locals := 0 } : Room)) (fun aA U => aA = #[(.ref r_V1_1), (.int (132 : Int32))] ∧ Z.Warmed39 U.vm ∧ U.heap = h0) (fun _ _ _ _ _ => True) (fun _ U o U' => ∃ v L, o = .returned v ∧ Q_a19_endsLine Z h0 n0 v U'.heap L ∧ FrameEnd U o U' L ({ frames := 0, cells := 0, slots := 0, locals := 0 } : Room).cells ({ frames := 0, cells := 0, slots := 0, locals := 0 } : Room).slots) := by
  refine MetFree.of_bodySF (plainFor_of_name own_pn_com_example_fitzroy_fitzroy_XmlVersion) hisR ?_
  intro p e s m args below meth c s₁ Bd hml0 hP hK
  obtain ⟨rfl, hZ, hh⟩ := hP
  have hx := Bd.exec
  have hby := Bd.bytes
  have hlk : meth.locks = false := BodyLoose.notSynchronized Bd
  have hml : c.maxLocals = 2 := hml0
  have hown : s.vm.findClass "com/example/fitzroy/fitzroy/XmlVersion" = some m.cls := findClass_of_methodNamed Bd.named
  have hnm := (name_of_methodNamed Bd.named Bd.method).1
  have X0 : Stand p l e ({ frames := 0, cells := 0, slots := 0, locals := 0 } : Room) s m #[(.ref r_V1_1), (.int (132 : Int32))] below meth c s₁ [] 0 0 := Stand.of_body Bd
  have e0 : s₁.heap = h0 := by rw [← hh, Bd.state]; rfl
  have N0 := Fr.nil n0
  show own_Go p e below (own_K s (Q_a19_endsLine Z h0 n0) ({ frames := 0, cells := 0, slots := 0, locals := 0 } : Room).cells ({ frames := 0, cells := 0, slots := 0, locals := 0 } : Room).slots) (s₁.setTop (entryFrame m #[(.ref r_V1_1), (.int (132 : Int32))] 2))
  rw [(by first | (simp [entryFrame, mkF, argsToLocals, Value.category]; done) | rfl : entryFrame m #[(.ref r_V1_1), (.int (132 : Int32))] 2 = mkF m 0 #[.val (.ref r_V1_1), .val (.int (132 : Int32))] [])]
  show own_Go p e below _ (s₁.setTop (mkF m 0 #[.val (.ref r_V1_1), .val (.int (132 : Int32))] []))
  refine own_go (fun _ hr => XS.iloadN X0.here hx rfl (hb hby own_d_prog_20_method_6_code_0) rfl (XS.bipush X0.here hx rfl (hb hby own_d_prog_20_method_6_code_1) (XS.icmpNo X0.here hx rfl (hb hby own_d_prog_20_method_6_code_3) rfl (feq (by decide)).1 (XS.iloadN X0.here hx rfl (hb hby own_d_prog_20_method_6_code_6) rfl (XS.bipush X0.here hx rfl (hb hby own_d_prog_20_method_6_code_7) (XS.icmpNo X0.here hx rfl (hb hby own_d_prog_20_method_6_code_9) rfl (feq (by decide)).1 (XS.aloadN X0.here hx rfl (hb hby own_d_prog_20_method_6_code_12) rfl rfl hr))))))) ?_
  show own_Go p e below _ (s₁.setTop (mkF m 13 #[.val (.ref r_V1_1), .val (.int (132 : Int32))] [(.ref r_V1_1)]))
  obtain ⟨T1, X1, e1, st1⟩ := getS2 X0 hx hZ hown (host := "") (Or.inl (hw _ (own_m 10 rfl))) Via.refl e0 S_V1_1 (g := (mkF m 13 #[.val (.ref r_V1_1), .val (.int (132 : Int32))] [(.ref r_V1_1)])) rfl (hb hby own_d_prog_20_method_6_code_13)
  refine own_go st1 ?_
  show own_Go p e below _ (T1.setTop (mkF m 16 #[.val (.ref r_V1_1), .val (.int (132 : Int32))] [(.ref r_V1_1), (.ref r_V1_1)]))
  refine own_go (fun _ hr => Jvm.RoadKit.acmp X1 hx rfl rfl rfl (pc0 := 16) (pc' := 19) (same := true) rfl (hb hby own_d_prog_20_method_6_code_16) rfl (decide_eq_true rfl) (by decide) (by decide) hr) ?_
  show own_Go p e below _ (T1.setTop (mkF m 19 #[.val (.ref r_V1_1), .val (.int (132 : Int32))] []))
  refine own_go (fun _ hr => XS.iloadN X1.here hx rfl (hb hby own_d_prog_20_method_6_code_19) rfl (XS.sipush X1.here hx rfl (hb hby own_d_prog_20_method_6_code_20) (XS.icmpNo X1.here hx rfl (hb hby own_d_prog_20_method_6_code_23) rfl (feq (by decide)).1 (XS.iloadN X1.here hx rfl (hb hby own_d_prog_20_method_6_code_26) rfl (XS.sipush X1.here hx rfl (hb hby own_d_prog_20_method_6_code_27) (XS.icmpYes X1.here hx rfl (pc0 := 30) (pc' := 37) rfl (hb hby own_d_prog_20_method_6_code_30) rfl (feq (by decide)).2 (by decide) (by decide) (XS.iconst X1.here hx rfl (hb hby own_d_prog_20_method_6_code_37) hr))))))) ?_
  show own_Go p e below _ (T1.setTop (mkF m 38 #[.val (.ref r_V1_1), .val (.int (132 : Int32))] [(.int (0 : Int32))]))
  exact own_retN X1 hx hlk Bd.returns (t := .boolean) (by simp) (hb hby own_d_prog_20_method_6_code_38) (by decide) (by decide) ⟨rfl, N0, e1⟩
def Q_a20_endsLine (Z : State) (h0 : Heap) (n0 : Nat) (v : Option Value) (h : Heap) (L : List Loc) : Prop := v = some (.int (1 : Int32)) ∧ Fr n0 L ∧ h = h0
set_option maxRecDepth 65536 in
set_option maxHeartbeats 40000000 in
theorem rm_a20_endsLine (l : Launch) (Z : State) (a0 : Array Value) (hw : ∀ d ∈ tables_1, d.before a0 Z = true) (ws : List Jvm.Cond) (r_V1_1 : Addr) (h0 : Heap) (n0 : Nat) (Z0 : n0 ≤ h0.size) (S_V1_1 : Sta Z h0 "com/example/fitzroy/fitzroy/XmlVersion" "V1_1" "Lcom/example/fitzroy/fitzroy/XmlVersion;" (.ref r_V1_1)) :
    MetFree l (⟨"com/example/fitzroy/fitzroy/XmlVersion", "endsLine", "(I)Z"⟩ : MethodName) (head1 (Jvm.Cond.code (⟨"com/example/fitzroy/fitzroy/XmlVersion", "endsLine", "(I)Z"⟩ : MethodName) prog_20_method_6_code 2 (some .boolean) :: ws) ({ frames := 0, cells := 0, slots := 0, locals := 0 } : Room)) (fun aA U => aA = #[(.ref r_V1_1), (.int (133 : Int32))] ∧ Z.Warmed39 U.vm ∧ U.heap = h0) (fun _ _ _ _ _ => True) (fun _ U o U' => ∃ v L, o = .returned v ∧ Q_a20_endsLine Z h0 n0 v U'.heap L ∧ FrameEnd U o U' L ({ frames := 0, cells := 0, slots := 0, locals := 0 } : Room).cells ({ frames := 0, cells := 0, slots := 0, locals := 0 } : Room).slots) := by
  refine MetFree.of_bodySF (plainFor_of_name own_pn_com_example_fitzroy_fitzroy_XmlVersion) hisR ?_
  intro p e s m args below meth c s₁ Bd hml0 hP hK
  obtain ⟨rfl, hZ, hh⟩ := hP
  have hx := Bd.exec
  have hby := Bd.bytes
  have hlk : meth.locks = false := BodyLoose.notSynchronized Bd
  have hml : c.maxLocals = 2 := hml0
  have hown : s.vm.findClass "com/example/fitzroy/fitzroy/XmlVersion" = some m.cls := findClass_of_methodNamed Bd.named
  have hnm := (name_of_methodNamed Bd.named Bd.method).1
  have X0 : Stand p l e ({ frames := 0, cells := 0, slots := 0, locals := 0 } : Room) s m #[(.ref r_V1_1), (.int (133 : Int32))] below meth c s₁ [] 0 0 := Stand.of_body Bd
  have e0 : s₁.heap = h0 := by rw [← hh, Bd.state]; rfl
  have N0 := Fr.nil n0
  show own_Go p e below (own_K s (Q_a20_endsLine Z h0 n0) ({ frames := 0, cells := 0, slots := 0, locals := 0 } : Room).cells ({ frames := 0, cells := 0, slots := 0, locals := 0 } : Room).slots) (s₁.setTop (entryFrame m #[(.ref r_V1_1), (.int (133 : Int32))] 2))
  rw [(by first | (simp [entryFrame, mkF, argsToLocals, Value.category]; done) | rfl : entryFrame m #[(.ref r_V1_1), (.int (133 : Int32))] 2 = mkF m 0 #[.val (.ref r_V1_1), .val (.int (133 : Int32))] [])]
  show own_Go p e below _ (s₁.setTop (mkF m 0 #[.val (.ref r_V1_1), .val (.int (133 : Int32))] []))
  refine own_go (fun _ hr => XS.iloadN X0.here hx rfl (hb hby own_d_prog_20_method_6_code_0) rfl (XS.bipush X0.here hx rfl (hb hby own_d_prog_20_method_6_code_1) (XS.icmpNo X0.here hx rfl (hb hby own_d_prog_20_method_6_code_3) rfl (feq (by decide)).1 (XS.iloadN X0.here hx rfl (hb hby own_d_prog_20_method_6_code_6) rfl (XS.bipush X0.here hx rfl (hb hby own_d_prog_20_method_6_code_7) (XS.icmpNo X0.here hx rfl (hb hby own_d_prog_20_method_6_code_9) rfl (feq (by decide)).1 (XS.aloadN X0.here hx rfl (hb hby own_d_prog_20_method_6_code_12) rfl rfl hr))))))) ?_
  show own_Go p e below _ (s₁.setTop (mkF m 13 #[.val (.ref r_V1_1), .val (.int (133 : Int32))] [(.ref r_V1_1)]))
  obtain ⟨T1, X1, e1, st1⟩ := getS2 X0 hx hZ hown (host := "") (Or.inl (hw _ (own_m 10 rfl))) Via.refl e0 S_V1_1 (g := (mkF m 13 #[.val (.ref r_V1_1), .val (.int (133 : Int32))] [(.ref r_V1_1)])) rfl (hb hby own_d_prog_20_method_6_code_13)
  refine own_go st1 ?_
  show own_Go p e below _ (T1.setTop (mkF m 16 #[.val (.ref r_V1_1), .val (.int (133 : Int32))] [(.ref r_V1_1), (.ref r_V1_1)]))
  refine own_go (fun _ hr => Jvm.RoadKit.acmp X1 hx rfl rfl rfl (pc0 := 16) (pc' := 19) (same := true) rfl (hb hby own_d_prog_20_method_6_code_16) rfl (decide_eq_true rfl) (by decide) (by decide) hr) ?_
  show own_Go p e below _ (T1.setTop (mkF m 19 #[.val (.ref r_V1_1), .val (.int (133 : Int32))] []))
  refine own_go (fun _ hr => XS.iloadN X1.here hx rfl (hb hby own_d_prog_20_method_6_code_19) rfl (XS.sipush X1.here hx rfl (hb hby own_d_prog_20_method_6_code_20) (XS.icmpYes X1.here hx rfl (pc0 := 23) (pc' := 33) rfl (hb hby own_d_prog_20_method_6_code_23) rfl (teq (by decide)).1 (by decide) (by decide) (XS.iconst X1.here hx rfl (hb hby own_d_prog_20_method_6_code_33) (XS.goto X1.here hx rfl (pc0 := 34) (pc' := 38) rfl (hb hby own_d_prog_20_method_6_code_34) (by decide) (by decide) hr))))) ?_
  show own_Go p e below _ (T1.setTop (mkF m 38 #[.val (.ref r_V1_1), .val (.int (133 : Int32))] [(.int (1 : Int32))]))
  exact own_retN X1 hx hlk Bd.returns (t := .boolean) (by simp) (hb hby own_d_prog_20_method_6_code_38) (by decide) (by decide) ⟨rfl, N0, e1⟩
def Q_a21_endsLine (Z : State) (h0 : Heap) (n0 : Nat) (v : Option Value) (h : Heap) (L : List Loc) : Prop := v = some (.int (0 : Int32)) ∧ Fr n0 L ∧ h = h0
set_option maxRecDepth 65536 in
set_option maxHeartbeats 40000000 in
theorem rm_a21_endsLine (l : Launch) (Z : State) (a0 : Array Value) (hw : ∀ d ∈ tables_1, d.before a0 Z = true) (ws : List Jvm.Cond) (r_V1_1 : Addr) (h0 : Heap) (n0 : Nat) (Z0 : n0 ≤ h0.size) (S_V1_1 : Sta Z h0 "com/example/fitzroy/fitzroy/XmlVersion" "V1_1" "Lcom/example/fitzroy/fitzroy/XmlVersion;" (.ref r_V1_1)) :
    MetFree l (⟨"com/example/fitzroy/fitzroy/XmlVersion", "endsLine", "(I)Z"⟩ : MethodName) (head1 (Jvm.Cond.code (⟨"com/example/fitzroy/fitzroy/XmlVersion", "endsLine", "(I)Z"⟩ : MethodName) prog_20_method_6_code 2 (some .boolean) :: ws) ({ frames := 0, cells := 0, slots := 0, locals := 0 } : Room)) (fun aA U => aA = #[(.ref r_V1_1), (.int (134 : Int32))] ∧ Z.Warmed39 U.vm ∧ U.heap = h0) (fun _ _ _ _ _ => True) (fun _ U o U' => ∃ v L, o = .returned v ∧ Q_a21_endsLine Z h0 n0 v U'.heap L ∧ FrameEnd U o U' L ({ frames := 0, cells := 0, slots := 0, locals := 0 } : Room).cells ({ frames := 0, cells := 0, slots := 0, locals := 0 } : Room).slots) := by
  refine MetFree.of_bodySF (plainFor_of_name own_pn_com_example_fitzroy_fitzroy_XmlVersion) hisR ?_
  intro p e s m args below meth c s₁ Bd hml0 hP hK
  obtain ⟨rfl, hZ, hh⟩ := hP
  have hx := Bd.exec
  have hby := Bd.bytes
  have hlk : meth.locks = false := BodyLoose.notSynchronized Bd
  have hml : c.maxLocals = 2 := hml0
  have hown : s.vm.findClass "com/example/fitzroy/fitzroy/XmlVersion" = some m.cls := findClass_of_methodNamed Bd.named
  have hnm := (name_of_methodNamed Bd.named Bd.method).1
  have X0 : Stand p l e ({ frames := 0, cells := 0, slots := 0, locals := 0 } : Room) s m #[(.ref r_V1_1), (.int (134 : Int32))] below meth c s₁ [] 0 0 := Stand.of_body Bd
  have e0 : s₁.heap = h0 := by rw [← hh, Bd.state]; rfl
  have N0 := Fr.nil n0
  show own_Go p e below (own_K s (Q_a21_endsLine Z h0 n0) ({ frames := 0, cells := 0, slots := 0, locals := 0 } : Room).cells ({ frames := 0, cells := 0, slots := 0, locals := 0 } : Room).slots) (s₁.setTop (entryFrame m #[(.ref r_V1_1), (.int (134 : Int32))] 2))
  rw [(by first | (simp [entryFrame, mkF, argsToLocals, Value.category]; done) | rfl : entryFrame m #[(.ref r_V1_1), (.int (134 : Int32))] 2 = mkF m 0 #[.val (.ref r_V1_1), .val (.int (134 : Int32))] [])]
  show own_Go p e below _ (s₁.setTop (mkF m 0 #[.val (.ref r_V1_1), .val (.int (134 : Int32))] []))
  refine own_go (fun _ hr => XS.iloadN X0.here hx rfl (hb hby own_d_prog_20_method_6_code_0) rfl (XS.bipush X0.here hx rfl (hb hby own_d_prog_20_method_6_code_1) (XS.icmpNo X0.here hx rfl (hb hby own_d_prog_20_method_6_code_3) rfl (feq (by decide)).1 (XS.iloadN X0.here hx rfl (hb hby own_d_prog_20_method_6_code_6) rfl (XS.bipush X0.here hx rfl (hb hby own_d_prog_20_method_6_code_7) (XS.icmpNo X0.here hx rfl (hb hby own_d_prog_20_method_6_code_9) rfl (feq (by decide)).1 (XS.aloadN X0.here hx rfl (hb hby own_d_prog_20_method_6_code_12) rfl rfl hr))))))) ?_
  show own_Go p e below _ (s₁.setTop (mkF m 13 #[.val (.ref r_V1_1), .val (.int (134 : Int32))] [(.ref r_V1_1)]))
  obtain ⟨T1, X1, e1, st1⟩ := getS2 X0 hx hZ hown (host := "") (Or.inl (hw _ (own_m 10 rfl))) Via.refl e0 S_V1_1 (g := (mkF m 13 #[.val (.ref r_V1_1), .val (.int (134 : Int32))] [(.ref r_V1_1)])) rfl (hb hby own_d_prog_20_method_6_code_13)
  refine own_go st1 ?_
  show own_Go p e below _ (T1.setTop (mkF m 16 #[.val (.ref r_V1_1), .val (.int (134 : Int32))] [(.ref r_V1_1), (.ref r_V1_1)]))
  refine own_go (fun _ hr => Jvm.RoadKit.acmp X1 hx rfl rfl rfl (pc0 := 16) (pc' := 19) (same := true) rfl (hb hby own_d_prog_20_method_6_code_16) rfl (decide_eq_true rfl) (by decide) (by decide) hr) ?_
  show own_Go p e below _ (T1.setTop (mkF m 19 #[.val (.ref r_V1_1), .val (.int (134 : Int32))] []))
  refine own_go (fun _ hr => XS.iloadN X1.here hx rfl (hb hby own_d_prog_20_method_6_code_19) rfl (XS.sipush X1.here hx rfl (hb hby own_d_prog_20_method_6_code_20) (XS.icmpNo X1.here hx rfl (hb hby own_d_prog_20_method_6_code_23) rfl (feq (by decide)).1 (XS.iloadN X1.here hx rfl (hb hby own_d_prog_20_method_6_code_26) rfl (XS.sipush X1.here hx rfl (hb hby own_d_prog_20_method_6_code_27) (XS.icmpYes X1.here hx rfl (pc0 := 30) (pc' := 37) rfl (hb hby own_d_prog_20_method_6_code_30) rfl (feq (by decide)).2 (by decide) (by decide) (XS.iconst X1.here hx rfl (hb hby own_d_prog_20_method_6_code_37) hr))))))) ?_
  show own_Go p e below _ (T1.setTop (mkF m 38 #[.val (.ref r_V1_1), .val (.int (134 : Int32))] [(.int (0 : Int32))]))
  exact own_retN X1 hx hlk Bd.returns (t := .boolean) (by simp) (hb hby own_d_prog_20_method_6_code_38) (by decide) (by decide) ⟨rfl, N0, e1⟩
def Q_a22_endsLine (Z : State) (h0 : Heap) (n0 : Nat) (v : Option Value) (h : Heap) (L : List Loc) : Prop := v = some (.int (0 : Int32)) ∧ Fr n0 L ∧ h = h0
set_option maxRecDepth 65536 in
set_option maxHeartbeats 40000000 in
theorem rm_a22_endsLine (l : Launch) (Z : State) (a0 : Array Value) (hw : ∀ d ∈ tables_1, d.before a0 Z = true) (ws : List Jvm.Cond) (r_V1_1 : Addr) (h0 : Heap) (n0 : Nat) (Z0 : n0 ≤ h0.size) (S_V1_1 : Sta Z h0 "com/example/fitzroy/fitzroy/XmlVersion" "V1_1" "Lcom/example/fitzroy/fitzroy/XmlVersion;" (.ref r_V1_1)) :
    MetFree l (⟨"com/example/fitzroy/fitzroy/XmlVersion", "endsLine", "(I)Z"⟩ : MethodName) (head1 (Jvm.Cond.code (⟨"com/example/fitzroy/fitzroy/XmlVersion", "endsLine", "(I)Z"⟩ : MethodName) prog_20_method_6_code 2 (some .boolean) :: ws) ({ frames := 0, cells := 0, slots := 0, locals := 0 } : Room)) (fun aA U => aA = #[(.ref r_V1_1), (.int (8231 : Int32))] ∧ Z.Warmed39 U.vm ∧ U.heap = h0) (fun _ _ _ _ _ => True) (fun _ U o U' => ∃ v L, o = .returned v ∧ Q_a22_endsLine Z h0 n0 v U'.heap L ∧ FrameEnd U o U' L ({ frames := 0, cells := 0, slots := 0, locals := 0 } : Room).cells ({ frames := 0, cells := 0, slots := 0, locals := 0 } : Room).slots) := by
  refine MetFree.of_bodySF (plainFor_of_name own_pn_com_example_fitzroy_fitzroy_XmlVersion) hisR ?_
  intro p e s m args below meth c s₁ Bd hml0 hP hK
  obtain ⟨rfl, hZ, hh⟩ := hP
  have hx := Bd.exec
  have hby := Bd.bytes
  have hlk : meth.locks = false := BodyLoose.notSynchronized Bd
  have hml : c.maxLocals = 2 := hml0
  have hown : s.vm.findClass "com/example/fitzroy/fitzroy/XmlVersion" = some m.cls := findClass_of_methodNamed Bd.named
  have hnm := (name_of_methodNamed Bd.named Bd.method).1
  have X0 : Stand p l e ({ frames := 0, cells := 0, slots := 0, locals := 0 } : Room) s m #[(.ref r_V1_1), (.int (8231 : Int32))] below meth c s₁ [] 0 0 := Stand.of_body Bd
  have e0 : s₁.heap = h0 := by rw [← hh, Bd.state]; rfl
  have N0 := Fr.nil n0
  show own_Go p e below (own_K s (Q_a22_endsLine Z h0 n0) ({ frames := 0, cells := 0, slots := 0, locals := 0 } : Room).cells ({ frames := 0, cells := 0, slots := 0, locals := 0 } : Room).slots) (s₁.setTop (entryFrame m #[(.ref r_V1_1), (.int (8231 : Int32))] 2))
  rw [(by first | (simp [entryFrame, mkF, argsToLocals, Value.category]; done) | rfl : entryFrame m #[(.ref r_V1_1), (.int (8231 : Int32))] 2 = mkF m 0 #[.val (.ref r_V1_1), .val (.int (8231 : Int32))] [])]
  show own_Go p e below _ (s₁.setTop (mkF m 0 #[.val (.ref r_V1_1), .val (.int (8231 : Int32))] []))
  refine own_go (fun _ hr => XS.iloadN X0.here hx rfl (hb hby own_d_prog_20_method_6_code_0) rfl (XS.bipush X0.here hx rfl (hb hby own_d_prog_20_method_6_code_1) (XS.icmpNo X0.here hx rfl (hb hby own_d_prog_20_method_6_code_3) rfl (feq (by decide)).1 (XS.iloadN X0.here hx rfl (hb hby own_d_prog_20_method_6_code_6) rfl (XS.bipush X0.here hx rfl (hb hby own_d_prog_20_method_6_code_7) (XS.icmpNo X0.here hx rfl (hb hby own_d_prog_20_method_6_code_9) rfl (feq (by decide)).1 (XS.aloadN X0.here hx rfl (hb hby own_d_prog_20_method_6_code_12) rfl rfl hr))))))) ?_
  show own_Go p e below _ (s₁.setTop (mkF m 13 #[.val (.ref r_V1_1), .val (.int (8231 : Int32))] [(.ref r_V1_1)]))
  obtain ⟨T1, X1, e1, st1⟩ := getS2 X0 hx hZ hown (host := "") (Or.inl (hw _ (own_m 10 rfl))) Via.refl e0 S_V1_1 (g := (mkF m 13 #[.val (.ref r_V1_1), .val (.int (8231 : Int32))] [(.ref r_V1_1)])) rfl (hb hby own_d_prog_20_method_6_code_13)
  refine own_go st1 ?_
  show own_Go p e below _ (T1.setTop (mkF m 16 #[.val (.ref r_V1_1), .val (.int (8231 : Int32))] [(.ref r_V1_1), (.ref r_V1_1)]))
  refine own_go (fun _ hr => Jvm.RoadKit.acmp X1 hx rfl rfl rfl (pc0 := 16) (pc' := 19) (same := true) rfl (hb hby own_d_prog_20_method_6_code_16) rfl (decide_eq_true rfl) (by decide) (by decide) hr) ?_
  show own_Go p e below _ (T1.setTop (mkF m 19 #[.val (.ref r_V1_1), .val (.int (8231 : Int32))] []))
  refine own_go (fun _ hr => XS.iloadN X1.here hx rfl (hb hby own_d_prog_20_method_6_code_19) rfl (XS.sipush X1.here hx rfl (hb hby own_d_prog_20_method_6_code_20) (XS.icmpNo X1.here hx rfl (hb hby own_d_prog_20_method_6_code_23) rfl (feq (by decide)).1 (XS.iloadN X1.here hx rfl (hb hby own_d_prog_20_method_6_code_26) rfl (XS.sipush X1.here hx rfl (hb hby own_d_prog_20_method_6_code_27) (XS.icmpYes X1.here hx rfl (pc0 := 30) (pc' := 37) rfl (hb hby own_d_prog_20_method_6_code_30) rfl (feq (by decide)).2 (by decide) (by decide) (XS.iconst X1.here hx rfl (hb hby own_d_prog_20_method_6_code_37) hr))))))) ?_
  show own_Go p e below _ (T1.setTop (mkF m 38 #[.val (.ref r_V1_1), .val (.int (8231 : Int32))] [(.int (0 : Int32))]))
  exact own_retN X1 hx hlk Bd.returns (t := .boolean) (by simp) (hb hby own_d_prog_20_method_6_code_38) (by decide) (by decide) ⟨rfl, N0, e1⟩
def Q_a23_endsLine (Z : State) (h0 : Heap) (n0 : Nat) (v : Option Value) (h : Heap) (L : List Loc) : Prop := v = some (.int (1 : Int32)) ∧ Fr n0 L ∧ h = h0
set_option maxRecDepth 65536 in
set_option maxHeartbeats 40000000 in
theorem rm_a23_endsLine (l : Launch) (Z : State) (a0 : Array Value) (hw : ∀ d ∈ tables_1, d.before a0 Z = true) (ws : List Jvm.Cond) (r_V1_1 : Addr) (h0 : Heap) (n0 : Nat) (Z0 : n0 ≤ h0.size) (S_V1_1 : Sta Z h0 "com/example/fitzroy/fitzroy/XmlVersion" "V1_1" "Lcom/example/fitzroy/fitzroy/XmlVersion;" (.ref r_V1_1)) :
    MetFree l (⟨"com/example/fitzroy/fitzroy/XmlVersion", "endsLine", "(I)Z"⟩ : MethodName) (head1 (Jvm.Cond.code (⟨"com/example/fitzroy/fitzroy/XmlVersion", "endsLine", "(I)Z"⟩ : MethodName) prog_20_method_6_code 2 (some .boolean) :: ws) ({ frames := 0, cells := 0, slots := 0, locals := 0 } : Room)) (fun aA U => aA = #[(.ref r_V1_1), (.int (8232 : Int32))] ∧ Z.Warmed39 U.vm ∧ U.heap = h0) (fun _ _ _ _ _ => True) (fun _ U o U' => ∃ v L, o = .returned v ∧ Q_a23_endsLine Z h0 n0 v U'.heap L ∧ FrameEnd U o U' L ({ frames := 0, cells := 0, slots := 0, locals := 0 } : Room).cells ({ frames := 0, cells := 0, slots := 0, locals := 0 } : Room).slots) := by
  refine MetFree.of_bodySF (plainFor_of_name own_pn_com_example_fitzroy_fitzroy_XmlVersion) hisR ?_
  intro p e s m args below meth c s₁ Bd hml0 hP hK
  obtain ⟨rfl, hZ, hh⟩ := hP
  have hx := Bd.exec
  have hby := Bd.bytes
  have hlk : meth.locks = false := BodyLoose.notSynchronized Bd
  have hml : c.maxLocals = 2 := hml0
  have hown : s.vm.findClass "com/example/fitzroy/fitzroy/XmlVersion" = some m.cls := findClass_of_methodNamed Bd.named
  have hnm := (name_of_methodNamed Bd.named Bd.method).1
  have X0 : Stand p l e ({ frames := 0, cells := 0, slots := 0, locals := 0 } : Room) s m #[(.ref r_V1_1), (.int (8232 : Int32))] below meth c s₁ [] 0 0 := Stand.of_body Bd
  have e0 : s₁.heap = h0 := by rw [← hh, Bd.state]; rfl
  have N0 := Fr.nil n0
  show own_Go p e below (own_K s (Q_a23_endsLine Z h0 n0) ({ frames := 0, cells := 0, slots := 0, locals := 0 } : Room).cells ({ frames := 0, cells := 0, slots := 0, locals := 0 } : Room).slots) (s₁.setTop (entryFrame m #[(.ref r_V1_1), (.int (8232 : Int32))] 2))
  rw [(by first | (simp [entryFrame, mkF, argsToLocals, Value.category]; done) | rfl : entryFrame m #[(.ref r_V1_1), (.int (8232 : Int32))] 2 = mkF m 0 #[.val (.ref r_V1_1), .val (.int (8232 : Int32))] [])]
  show own_Go p e below _ (s₁.setTop (mkF m 0 #[.val (.ref r_V1_1), .val (.int (8232 : Int32))] []))
  refine own_go (fun _ hr => XS.iloadN X0.here hx rfl (hb hby own_d_prog_20_method_6_code_0) rfl (XS.bipush X0.here hx rfl (hb hby own_d_prog_20_method_6_code_1) (XS.icmpNo X0.here hx rfl (hb hby own_d_prog_20_method_6_code_3) rfl (feq (by decide)).1 (XS.iloadN X0.here hx rfl (hb hby own_d_prog_20_method_6_code_6) rfl (XS.bipush X0.here hx rfl (hb hby own_d_prog_20_method_6_code_7) (XS.icmpNo X0.here hx rfl (hb hby own_d_prog_20_method_6_code_9) rfl (feq (by decide)).1 (XS.aloadN X0.here hx rfl (hb hby own_d_prog_20_method_6_code_12) rfl rfl hr))))))) ?_
  show own_Go p e below _ (s₁.setTop (mkF m 13 #[.val (.ref r_V1_1), .val (.int (8232 : Int32))] [(.ref r_V1_1)]))
  obtain ⟨T1, X1, e1, st1⟩ := getS2 X0 hx hZ hown (host := "") (Or.inl (hw _ (own_m 10 rfl))) Via.refl e0 S_V1_1 (g := (mkF m 13 #[.val (.ref r_V1_1), .val (.int (8232 : Int32))] [(.ref r_V1_1)])) rfl (hb hby own_d_prog_20_method_6_code_13)
  refine own_go st1 ?_
  show own_Go p e below _ (T1.setTop (mkF m 16 #[.val (.ref r_V1_1), .val (.int (8232 : Int32))] [(.ref r_V1_1), (.ref r_V1_1)]))
  refine own_go (fun _ hr => Jvm.RoadKit.acmp X1 hx rfl rfl rfl (pc0 := 16) (pc' := 19) (same := true) rfl (hb hby own_d_prog_20_method_6_code_16) rfl (decide_eq_true rfl) (by decide) (by decide) hr) ?_
  show own_Go p e below _ (T1.setTop (mkF m 19 #[.val (.ref r_V1_1), .val (.int (8232 : Int32))] []))
  refine own_go (fun _ hr => XS.iloadN X1.here hx rfl (hb hby own_d_prog_20_method_6_code_19) rfl (XS.sipush X1.here hx rfl (hb hby own_d_prog_20_method_6_code_20) (XS.icmpNo X1.here hx rfl (hb hby own_d_prog_20_method_6_code_23) rfl (feq (by decide)).1 (XS.iloadN X1.here hx rfl (hb hby own_d_prog_20_method_6_code_26) rfl (XS.sipush X1.here hx rfl (hb hby own_d_prog_20_method_6_code_27) (XS.icmpNo X1.here hx rfl (hb hby own_d_prog_20_method_6_code_30) rfl (teq (by decide)).2 (XS.iconst X1.here hx rfl (hb hby own_d_prog_20_method_6_code_33) (XS.goto X1.here hx rfl (pc0 := 34) (pc' := 38) rfl (hb hby own_d_prog_20_method_6_code_34) (by decide) (by decide) hr)))))))) ?_
  show own_Go p e below _ (T1.setTop (mkF m 38 #[.val (.ref r_V1_1), .val (.int (8232 : Int32))] [(.int (1 : Int32))]))
  exact own_retN X1 hx hlk Bd.returns (t := .boolean) (by simp) (hb hby own_d_prog_20_method_6_code_38) (by decide) (by decide) ⟨rfl, N0, e1⟩
def Q_a24_endsLine (Z : State) (h0 : Heap) (n0 : Nat) (v : Option Value) (h : Heap) (L : List Loc) : Prop := v = some (.int (0 : Int32)) ∧ Fr n0 L ∧ h = h0
set_option maxRecDepth 65536 in
set_option maxHeartbeats 40000000 in
theorem rm_a24_endsLine (l : Launch) (Z : State) (a0 : Array Value) (hw : ∀ d ∈ tables_1, d.before a0 Z = true) (ws : List Jvm.Cond) (r_V1_1 : Addr) (h0 : Heap) (n0 : Nat) (Z0 : n0 ≤ h0.size) (S_V1_1 : Sta Z h0 "com/example/fitzroy/fitzroy/XmlVersion" "V1_1" "Lcom/example/fitzroy/fitzroy/XmlVersion;" (.ref r_V1_1)) :
    MetFree l (⟨"com/example/fitzroy/fitzroy/XmlVersion", "endsLine", "(I)Z"⟩ : MethodName) (head1 (Jvm.Cond.code (⟨"com/example/fitzroy/fitzroy/XmlVersion", "endsLine", "(I)Z"⟩ : MethodName) prog_20_method_6_code 2 (some .boolean) :: ws) ({ frames := 0, cells := 0, slots := 0, locals := 0 } : Room)) (fun aA U => aA = #[(.ref r_V1_1), (.int (8233 : Int32))] ∧ Z.Warmed39 U.vm ∧ U.heap = h0) (fun _ _ _ _ _ => True) (fun _ U o U' => ∃ v L, o = .returned v ∧ Q_a24_endsLine Z h0 n0 v U'.heap L ∧ FrameEnd U o U' L ({ frames := 0, cells := 0, slots := 0, locals := 0 } : Room).cells ({ frames := 0, cells := 0, slots := 0, locals := 0 } : Room).slots) := by
  refine MetFree.of_bodySF (plainFor_of_name own_pn_com_example_fitzroy_fitzroy_XmlVersion) hisR ?_
  intro p e s m args below meth c s₁ Bd hml0 hP hK
  obtain ⟨rfl, hZ, hh⟩ := hP
  have hx := Bd.exec
  have hby := Bd.bytes
  have hlk : meth.locks = false := BodyLoose.notSynchronized Bd
  have hml : c.maxLocals = 2 := hml0
  have hown : s.vm.findClass "com/example/fitzroy/fitzroy/XmlVersion" = some m.cls := findClass_of_methodNamed Bd.named
  have hnm := (name_of_methodNamed Bd.named Bd.method).1
  have X0 : Stand p l e ({ frames := 0, cells := 0, slots := 0, locals := 0 } : Room) s m #[(.ref r_V1_1), (.int (8233 : Int32))] below meth c s₁ [] 0 0 := Stand.of_body Bd
  have e0 : s₁.heap = h0 := by rw [← hh, Bd.state]; rfl
  have N0 := Fr.nil n0
  show own_Go p e below (own_K s (Q_a24_endsLine Z h0 n0) ({ frames := 0, cells := 0, slots := 0, locals := 0 } : Room).cells ({ frames := 0, cells := 0, slots := 0, locals := 0 } : Room).slots) (s₁.setTop (entryFrame m #[(.ref r_V1_1), (.int (8233 : Int32))] 2))
  rw [(by first | (simp [entryFrame, mkF, argsToLocals, Value.category]; done) | rfl : entryFrame m #[(.ref r_V1_1), (.int (8233 : Int32))] 2 = mkF m 0 #[.val (.ref r_V1_1), .val (.int (8233 : Int32))] [])]
  show own_Go p e below _ (s₁.setTop (mkF m 0 #[.val (.ref r_V1_1), .val (.int (8233 : Int32))] []))
  refine own_go (fun _ hr => XS.iloadN X0.here hx rfl (hb hby own_d_prog_20_method_6_code_0) rfl (XS.bipush X0.here hx rfl (hb hby own_d_prog_20_method_6_code_1) (XS.icmpNo X0.here hx rfl (hb hby own_d_prog_20_method_6_code_3) rfl (feq (by decide)).1 (XS.iloadN X0.here hx rfl (hb hby own_d_prog_20_method_6_code_6) rfl (XS.bipush X0.here hx rfl (hb hby own_d_prog_20_method_6_code_7) (XS.icmpNo X0.here hx rfl (hb hby own_d_prog_20_method_6_code_9) rfl (feq (by decide)).1 (XS.aloadN X0.here hx rfl (hb hby own_d_prog_20_method_6_code_12) rfl rfl hr))))))) ?_
  show own_Go p e below _ (s₁.setTop (mkF m 13 #[.val (.ref r_V1_1), .val (.int (8233 : Int32))] [(.ref r_V1_1)]))
  obtain ⟨T1, X1, e1, st1⟩ := getS2 X0 hx hZ hown (host := "") (Or.inl (hw _ (own_m 10 rfl))) Via.refl e0 S_V1_1 (g := (mkF m 13 #[.val (.ref r_V1_1), .val (.int (8233 : Int32))] [(.ref r_V1_1)])) rfl (hb hby own_d_prog_20_method_6_code_13)
  refine own_go st1 ?_
  show own_Go p e below _ (T1.setTop (mkF m 16 #[.val (.ref r_V1_1), .val (.int (8233 : Int32))] [(.ref r_V1_1), (.ref r_V1_1)]))
  refine own_go (fun _ hr => Jvm.RoadKit.acmp X1 hx rfl rfl rfl (pc0 := 16) (pc' := 19) (same := true) rfl (hb hby own_d_prog_20_method_6_code_16) rfl (decide_eq_true rfl) (by decide) (by decide) hr) ?_
  show own_Go p e below _ (T1.setTop (mkF m 19 #[.val (.ref r_V1_1), .val (.int (8233 : Int32))] []))
  refine own_go (fun _ hr => XS.iloadN X1.here hx rfl (hb hby own_d_prog_20_method_6_code_19) rfl (XS.sipush X1.here hx rfl (hb hby own_d_prog_20_method_6_code_20) (XS.icmpNo X1.here hx rfl (hb hby own_d_prog_20_method_6_code_23) rfl (feq (by decide)).1 (XS.iloadN X1.here hx rfl (hb hby own_d_prog_20_method_6_code_26) rfl (XS.sipush X1.here hx rfl (hb hby own_d_prog_20_method_6_code_27) (XS.icmpYes X1.here hx rfl (pc0 := 30) (pc' := 37) rfl (hb hby own_d_prog_20_method_6_code_30) rfl (feq (by decide)).2 (by decide) (by decide) (XS.iconst X1.here hx rfl (hb hby own_d_prog_20_method_6_code_37) hr))))))) ?_
  show own_Go p e below _ (T1.setTop (mkF m 38 #[.val (.ref r_V1_1), .val (.int (8233 : Int32))] [(.int (0 : Int32))]))
  exact own_retN X1 hx hlk Bd.returns (t := .boolean) (by simp) (hb hby own_d_prog_20_method_6_code_38) (by decide) (by decide) ⟨rfl, N0, e1⟩
theorem own_pn_com_example_fitzroy_fitzroy_XmlVersionEndsLinePinLaw : plainName "com/example/fitzroy/fitzroy/XmlVersionEndsLinePinLaw" = true := by first | (simp [plainName, overriddenIn]; done) | decide +kernel
def Q_law (Z : State) (h0 : Heap) (n0 : Nat) (v : Option Value) (h : Heap) (L : List Loc) : Prop := v = some (.int 1) ∧ Fr n0 L
set_option maxRecDepth 65536 in
set_option maxHeartbeats 40000000 in
theorem rm_law (l : Launch) (Z : State) (a0 : Array Value) (hw : ∀ d ∈ tables_1, d.before a0 Z = true) (ws : List Jvm.Cond) (x0 : Int32) (x1 : Int32) (x2 : Int32) (r_V1_0 : Addr) (r_V1_1 : Addr) (h0 : Heap) (n0 : Nat) (Z0 : n0 ≤ h0.size) (S_V1_0 : Sta Z h0 "com/example/fitzroy/fitzroy/XmlVersion" "V1_0" "Lcom/example/fitzroy/fitzroy/XmlVersion;" (.ref r_V1_0)) (E_V1_0 : Exa Z h0 r_V1_0 "com/example/fitzroy/fitzroy/XmlVersion") (S_V1_1 : Sta Z h0 "com/example/fitzroy/fitzroy/XmlVersion" "V1_1" "Lcom/example/fitzroy/fitzroy/XmlVersion;" (.ref r_V1_1)) (E_V1_1 : Exa Z h0 r_V1_1 "com/example/fitzroy/fitzroy/XmlVersion") (ne_V1_0_V1_1 : r_V1_0 ≠ r_V1_1) :
    MetFree l x (head1 (Jvm.Cond.code x code maxLocals ret :: ws) room_1) (fun aA U => aA = #[(.int x0), (.int x1), (.int x2)] ∧ Z.Warmed39 U.vm ∧ U.heap = h0) (fun _ _ _ _ _ => True) (fun _ U o U' => ∃ v L, o = .returned v ∧ Q_law Z h0 n0 v U'.heap L ∧ FrameEnd U o U' L room_1.cells room_1.slots) := by
  refine MetFree.of_bodySF (plainFor_of_name own_pn_com_example_fitzroy_fitzroy_XmlVersionEndsLinePinLaw) hisR ?_
  intro p e s m args below meth c s₁ Bd hml0 hP hK
  obtain ⟨rfl, hZ, hh⟩ := hP
  have hx := Bd.exec
  have hby := Bd.bytes
  have hlk : meth.locks = false := BodyLoose.notSynchronized Bd
  have hml : c.maxLocals = 11 := hml0
  have hown : s.vm.findClass "com/example/fitzroy/fitzroy/XmlVersionEndsLinePinLaw" = some m.cls := findClass_of_methodNamed Bd.named
  have hnm := (name_of_methodNamed Bd.named Bd.method).1
  have X0 : Stand p l e room_1 s m #[(.int x0), (.int x1), (.int x2)] below meth c s₁ [] 0 0 := Stand.of_body Bd
  have e0 : s₁.heap = h0 := by rw [← hh, Bd.state]; rfl
  have N0 := Fr.nil n0
  show own_Go p e below (own_K s (Q_law Z h0 n0) room_1.cells room_1.slots) (s₁.setTop (entryFrame m #[(.int x0), (.int x1), (.int x2)] maxLocals))
  rw [(by first | (simp [entryFrame, mkF, argsToLocals, Value.category, maxLocals]; done) | rfl : entryFrame m #[(.int x0), (.int x1), (.int x2)] maxLocals = mkF m 0 #[.val (.int x0), .val (.int x1), .val (.int x2), .unset, .unset, .unset, .unset, .unset, .unset, .unset, .unset] [])]
  show own_Go p e below _ (s₁.setTop (mkF m 0 #[.val (.int x0), .val (.int x1), .val (.int x2), .unset, .unset, .unset, .unset, .unset, .unset, .unset, .unset] []))
  refine own_go (fun _ hr => XS.iloadN X0.here hx rfl (hb hby at_0) rfl (XS.iconst X0.here hx rfl (hb hby at_1) (XS.iand X0.here hx rfl (hb hby at_2) rfl hr))) ?_
  show own_Go p e below _ (s₁.setTop (mkF m 3 #[.val (.int x0), .val (.int x1), .val (.int x2), .unset, .unset, .unset, .unset, .unset, .unset, .unset, .unset] [(.int (x0 &&& (1 : Int32)))]))
  by_cases c1 : (x0 &&& (1 : Int32)) = (0 : Int32)
  · refine own_go (fun _ hr => XS.ifYes X0.here hx rfl (pc0 := 3) (pc' := 10) rfl (hb hby at_3) rfl ((if0 _ _).trans (teq c1).1) (by decide) (by decide) hr) ?_
    show own_Go p e below _ (s₁.setTop (mkF m 10 #[.val (.int x0), .val (.int x1), .val (.int x2), .unset, .unset, .unset, .unset, .unset, .unset, .unset, .unset] []))
    refine own_go (fun _ hr => XS.iconst X0.here hx rfl (hb hby at_10) (XS.istoreN X0.here hx rfl (hb hby at_11) rfl (l' := #[.val (.int x0), .val (.int x1), .val (.int x2), .val (.int (0 : Int32)), .unset, .unset, .unset, .unset, .unset, .unset, .unset]) rfl (XS.iloadN X0.here hx rfl (hb hby at_12) rfl (XS.ifYes X0.here hx rfl (pc0 := 13) (pc' := 22) rfl (hb hby at_13) rfl ((if0 _ _).trans (teq (by decide)).1) (by decide) (by decide) hr)))) ?_
    show own_Go p e below _ (s₁.setTop (mkF m 22 #[.val (.int x0), .val (.int x1), .val (.int x2), .val (.int (0 : Int32)), .unset, .unset, .unset, .unset, .unset, .unset, .unset] []))
    obtain ⟨T2, X2, e2, st2⟩ := getS2 X0 hx hZ hown (host := "") (Or.inl (hw _ (own_m 0 rfl))) Via.refl e0 S_V1_0 (g := (mkF m 22 #[.val (.int x0), .val (.int x1), .val (.int x2), .val (.int (0 : Int32)), .unset, .unset, .unset, .unset, .unset, .unset, .unset] [])) rfl (hb hby at_22)
    refine own_go st2 ?_
    show own_Go p e below _ (T2.setTop (mkF m 25 #[.val (.int x0), .val (.int x1), .val (.int x2), .val (.int (0 : Int32)), .unset, .unset, .unset, .unset, .unset, .unset, .unset] [(.ref r_V1_0)]))
    refine own_go (fun _ hr => XS.astore X2.here hx rfl (hb hby at_25) rfl rfl (l' := #[.val (.int x0), .val (.int x1), .val (.int x2), .val (.int (0 : Int32)), .val (.ref r_V1_0), .unset, .unset, .unset, .unset, .unset, .unset]) rfl (XS.iconst X2.here hx rfl (hb hby at_27) hr)) ?_
    show own_Go p e below _ (T2.setTop (mkF m 28 #[.val (.int x0), .val (.int x1), .val (.int x2), .val (.int (0 : Int32)), .val (.ref r_V1_0), .unset, .unset, .unset, .unset, .unset, .unset] [(.int (4 : Int32))]))
    obtain ⟨T3, h3, k3, X3, e3, E3, A3, EA3, st3⟩ := newPE X2 hx hZ (hw _ (own_m 3 rfl)) e2 (g := (mkF m 28 #[.val (.int x0), .val (.int x1), .val (.int x2), .val (.int (0 : Int32)), .val (.ref r_V1_0), .unset, .unset, .unset, .unset, .unset, .unset] [(.int (4 : Int32))])) rfl (hb hby at_28) rfl (by decide) (cap := 4) (by decide) (by decide) (by decide) (by decide) (ad := "[I") (by decide)
    obtain ⟨b3, g3⟩ : ∃ z, z = h0.size := ⟨_, rfl⟩
    rw [← g3] at A3 EA3 st3
    have ge4 : n0 ≤ b3 := Nat.le_trans Z0 (Nat.le_of_eq g3.symm)
    refine own_go st3 ?_
    have f5 : Arv Z h3 b3 k3 .int (4 : Int32) [(.int (0 : Int32)), (.int (0 : Int32)), (.int (0 : Int32)), (.int (0 : Int32))] (.int (0 : Int32)) := (Arv.new A3 (by decide)).pad (pad_rep [] (.int (0 : Int32)) 4)
    show own_Go p e below _ (T3.setTop (mkF m 30 #[.val (.int x0), .val (.int x1), .val (.int x2), .val (.int (0 : Int32)), .val (.ref r_V1_0), .unset, .unset, .unset, .unset, .unset, .unset] [(.ref b3)]))
    refine own_go (fun _ hr => XS.dup X3.here hx rfl (hb hby at_30) rfl rfl (XS.iconst X3.here hx rfl (hb hby at_31) (XS.bipush X3.here hx rfl (hb hby at_32) hr))) ?_
    show own_Go p e below _ (T3.setTop (mkF m 34 #[.val (.int x0), .val (.int x1), .val (.int x2), .val (.int (0 : Int32)), .val (.ref r_V1_0), .unset, .unset, .unset, .unset, .unset, .unset] [(.int (10 : Int32)), (.int (0 : Int32)), (.ref b3), (.ref b3)]))
    refine own_stI X3 hx hZ e3 f5 (0 : Int32) (10 : Int32) 0 ⟨by decide, by decide⟩ rfl (Nat.le_of_ble_eq_true rfl)  [(.int (10 : Int32)), (.int (0 : Int32)), (.int (0 : Int32)), (.int (0 : Int32))] rfl N0 ge4 (hb hby at_34) ?_
    intro T6 h6 L6 X6 e6 W6 N6 f6
    show own_Go p e below _ (T6.setTop (mkF m 35 #[.val (.int x0), .val (.int x1), .val (.int x2), .val (.int (0 : Int32)), .val (.ref r_V1_0), .unset, .unset, .unset, .unset, .unset, .unset] [(.ref b3)]))
    refine own_go (fun _ hr => XS.dup X6.here hx rfl (hb hby at_35) rfl rfl (XS.iconst X6.here hx rfl (hb hby at_36) (XS.bipush X6.here hx rfl (hb hby at_37) hr))) ?_
    show own_Go p e below _ (T6.setTop (mkF m 39 #[.val (.int x0), .val (.int x1), .val (.int x2), .val (.int (0 : Int32)), .val (.ref r_V1_0), .unset, .unset, .unset, .unset, .unset, .unset] [(.int (13 : Int32)), (.int (1 : Int32)), (.ref b3), (.ref b3)]))
    refine own_stI X6 hx hZ e6 f6 (1 : Int32) (13 : Int32) 1 ⟨by decide, by decide⟩ rfl (Nat.le_of_ble_eq_true rfl)  [(.int (10 : Int32)), (.int (13 : Int32)), (.int (0 : Int32)), (.int (0 : Int32))] rfl N6 ge4 (hb hby at_39) ?_
    intro T7 h7 L7 X7 e7 W7 N7 f7
    show own_Go p e below _ (T7.setTop (mkF m 40 #[.val (.int x0), .val (.int x1), .val (.int x2), .val (.int (0 : Int32)), .val (.ref r_V1_0), .unset, .unset, .unset, .unset, .unset, .unset] [(.ref b3)]))
    refine own_go (fun _ hr => XS.dup X7.here hx rfl (hb hby at_40) rfl rfl (XS.iconst X7.here hx rfl (hb hby at_41) (XS.sipush X7.here hx rfl (hb hby at_42) hr))) ?_
    show own_Go p e below _ (T7.setTop (mkF m 45 #[.val (.int x0), .val (.int x1), .val (.int x2), .val (.int (0 : Int32)), .val (.ref r_V1_0), .unset, .unset, .unset, .unset, .unset, .unset] [(.int (133 : Int32)), (.int (2 : Int32)), (.ref b3), (.ref b3)]))
    refine own_stI X7 hx hZ e7 f7 (2 : Int32) (133 : Int32) 2 ⟨by decide, by decide⟩ rfl (Nat.le_of_ble_eq_true rfl)  [(.int (10 : Int32)), (.int (13 : Int32)), (.int (133 : Int32)), (.int (0 : Int32))] rfl N7 ge4 (hb hby at_45) ?_
    intro T8 h8 L8 X8 e8 W8 N8 f8
    show own_Go p e below _ (T8.setTop (mkF m 46 #[.val (.int x0), .val (.int x1), .val (.int x2), .val (.int (0 : Int32)), .val (.ref r_V1_0), .unset, .unset, .unset, .unset, .unset, .unset] [(.ref b3)]))
    refine own_go (fun _ hr => XS.dup X8.here hx rfl (hb hby at_46) rfl rfl (XS.iconst X8.here hx rfl (hb hby at_47) (XS.sipush X8.here hx rfl (hb hby at_48) hr))) ?_
    show own_Go p e below _ (T8.setTop (mkF m 51 #[.val (.int x0), .val (.int x1), .val (.int x2), .val (.int (0 : Int32)), .val (.ref r_V1_0), .unset, .unset, .unset, .unset, .unset, .unset] [(.int (8232 : Int32)), (.int (3 : Int32)), (.ref b3), (.ref b3)]))
    refine own_stI X8 hx hZ e8 f8 (3 : Int32) (8232 : Int32) 3 ⟨by decide, by decide⟩ rfl (Nat.le_of_ble_eq_true rfl)  [(.int (10 : Int32)), (.int (13 : Int32)), (.int (133 : Int32)), (.int (8232 : Int32))] rfl N8 ge4 (hb hby at_51) ?_
    intro T9 h9 L9 X9 e9 W9 N9 f9
    show own_Go p e below _ (T9.setTop (mkF m 52 #[.val (.int x0), .val (.int x1), .val (.int x2), .val (.int (0 : Int32)), .val (.ref r_V1_0), .unset, .unset, .unset, .unset, .unset, .unset] [(.ref b3)]))
    refine own_go (fun _ hr => XS.astore X9.here hx rfl (hb hby at_52) rfl rfl (l' := #[.val (.int x0), .val (.int x1), .val (.int x2), .val (.int (0 : Int32)), .val (.ref r_V1_0), .val (.ref b3), .unset, .unset, .unset, .unset, .unset]) rfl (XS.iloadN X9.here hx rfl (hb hby at_54) rfl hr)) ?_
    show own_Go p e below _ (T9.setTop (mkF m 55 #[.val (.int x0), .val (.int x1), .val (.int x2), .val (.int (0 : Int32)), .val (.ref r_V1_0), .val (.ref b3), .unset, .unset, .unset, .unset, .unset] [(.int x1)]))
    refine own_go (X9.ldcInt hx hown (mvT hZ (hw _ (own_m 4 rfl))) rfl (hb hby at_55)) ?_
    show own_Go p e below _ (T9.setTop (mkF m 57 #[.val (.int x0), .val (.int x1), .val (.int x2), .val (.int (0 : Int32)), .val (.ref r_V1_0), .val (.ref b3), .unset, .unset, .unset, .unset, .unset] [(.int (2147483647 : Int32)), (.int x1)]))
    refine own_go (fun _ hr => XS.iand X9.here hx rfl (hb hby at_57) rfl (XS.bipush X9.here hx rfl (hb hby at_58) hr)) ?_
    show own_Go p e below _ (T9.setTop (mkF m 60 #[.val (.int x0), .val (.int x1), .val (.int x2), .val (.int (0 : Int32)), .val (.ref r_V1_0), .val (.ref b3), .unset, .unset, .unset, .unset, .unset] [(.int (13 : Int32)), (.int (x1 &&& (2147483647 : Int32)))]))
    have nz10 : (13 : Int32) ≠ (0 : Int32) := by decide
    refine own_go (fun _ hr => iremM X9 hx rfl (hb hby at_60) rfl nz10 hr) ?_
    show own_Go p e below _ (T9.setTop (mkF m 61 #[.val (.int x0), .val (.int x1), .val (.int x2), .val (.int (0 : Int32)), .val (.ref r_V1_0), .val (.ref b3), .unset, .unset, .unset, .unset, .unset] [(.int ((x1 &&& (2147483647 : Int32)) % (13 : Int32)))]))
    refine own_go (fun _ hr => XS.istore X9.here hx rfl (hb hby at_61) rfl (l' := #[.val (.int x0), .val (.int x1), .val (.int x2), .val (.int (0 : Int32)), .val (.ref r_V1_0), .val (.ref b3), .val (.int ((x1 &&& (2147483647 : Int32)) % (13 : Int32))), .unset, .unset, .unset, .unset]) rfl hr) ?_
    show own_Go p e below _ (T9.setTop (mkF m 63 #[.val (.int x0), .val (.int x1), .val (.int x2), .val (.int (0 : Int32)), .val (.ref r_V1_0), .val (.ref b3), .val (.int ((x1 &&& (2147483647 : Int32)) % (13 : Int32))), .unset, .unset, .unset, .unset] []))
    rcases own_mod13 x1 with hk11 | hk11 | hk11 | hk11 | hk11 | hk11 | hk11 | hk11 | hk11 | hk11 | hk11 | hk11 | hk11
    · rw [hk11]
      show own_Go p e below _ (T9.setTop (mkF m 63 #[.val (.int x0), .val (.int x1), .val (.int x2), .val (.int (0 : Int32)), .val (.ref r_V1_0), .val (.ref b3), .val (.int (0 : Int32)), .unset, .unset, .unset, .unset] []))
      refine own_go (fun _ hr => XS.iload X9.here hx rfl (hb hby at_63) rfl (XS.bipush X9.here hx rfl (hb hby at_65) (XS.icmpYes X9.here hx rfl (pc0 := 67) (pc' := 137) rfl (hb hby at_67) rfl (feq (by decide)).2 (by decide) (by decide) (XS.iload X9.here hx rfl (hb hby at_137) rfl (XS.iconst X9.here hx rfl (hb hby at_139) hr))))) ?_
      show own_Go p e below _ (T9.setTop (mkF m 140 #[.val (.int x0), .val (.int x1), .val (.int x2), .val (.int (0 : Int32)), .val (.ref r_V1_0), .val (.ref b3), .val (.int (0 : Int32)), .unset, .unset, .unset, .unset] [(.int (3 : Int32)), (.int (0 : Int32))]))
      have nz12 : (3 : Int32) ≠ (0 : Int32) := by decide
      refine own_go (fun _ hr => XS.idiv X9.here hx rfl (hb hby at_140) rfl nz12 hr) ?_
      show own_Go p e below _ (T9.setTop (mkF m 141 #[.val (.int x0), .val (.int x1), .val (.int x2), .val (.int (0 : Int32)), .val (.ref r_V1_0), .val (.ref b3), .val (.int (0 : Int32)), .unset, .unset, .unset, .unset] [(.int (0 : Int32))]))
      refine own_go (fun _ hr => XS.istore X9.here hx rfl (hb hby at_141) rfl (l' := #[.val (.int x0), .val (.int x1), .val (.int x2), .val (.int (0 : Int32)), .val (.ref r_V1_0), .val (.ref b3), .val (.int (0 : Int32)), .unset, .unset, .val (.int (0 : Int32)), .unset]) rfl (XS.iload X9.here hx rfl (hb hby at_143) rfl (XS.iconst X9.here hx rfl (hb hby at_145) hr))) ?_
      show own_Go p e below _ (T9.setTop (mkF m 146 #[.val (.int x0), .val (.int x1), .val (.int x2), .val (.int (0 : Int32)), .val (.ref r_V1_0), .val (.ref b3), .val (.int (0 : Int32)), .unset, .unset, .val (.int (0 : Int32)), .unset] [(.int (3 : Int32)), (.int (0 : Int32))]))
      have nz13 : (3 : Int32) ≠ (0 : Int32) := by decide
      refine own_go (fun _ hr => iremM X9 hx rfl (hb hby at_146) rfl nz13 hr) ?_
      show own_Go p e below _ (T9.setTop (mkF m 147 #[.val (.int x0), .val (.int x1), .val (.int x2), .val (.int (0 : Int32)), .val (.ref r_V1_0), .val (.ref b3), .val (.int (0 : Int32)), .unset, .unset, .val (.int (0 : Int32)), .unset] [(.int (0 : Int32))]))
      refine own_go (fun _ hr => XS.iconst X9.here hx rfl (hb hby at_147) (XS.isub X9.here hx rfl (hb hby at_148) rfl (XS.istore X9.here hx rfl (hb hby at_149) rfl (l' := #[.val (.int x0), .val (.int x1), .val (.int x2), .val (.int (0 : Int32)), .val (.ref r_V1_0), .val (.ref b3), .val (.int (0 : Int32)), .unset, .unset, .val (.int (0 : Int32)), .val (.int (-1 : Int32))]) rfl (XS.aload X9.here hx rfl (hb hby at_151) rfl rfl (XS.iload X9.here hx rfl (hb hby at_153) rfl (own_iaload X9 hx hZ e9 f9 (0 : Int32) (.int (10 : Int32)) ⟨by decide, by decide⟩ rfl rfl rfl (hb hby at_155) (XS.iload X9.here hx rfl (hb hby at_156) rfl (XS.iadd X9.here hx rfl (hb hby at_158) rfl (XS.istore X9.here hx rfl (hb hby at_159) rfl (l' := #[.val (.int x0), .val (.int x1), .val (.int x2), .val (.int (0 : Int32)), .val (.ref r_V1_0), .val (.ref b3), .val (.int (0 : Int32)), .val (.int (9 : Int32)), .unset, .val (.int (0 : Int32)), .val (.int (-1 : Int32))]) rfl (XS.iload X9.here hx rfl (hb hby at_161) rfl hr)))))))))) ?_
      show own_Go p e below _ (T9.setTop (mkF m 163 #[.val (.int x0), .val (.int x1), .val (.int x2), .val (.int (0 : Int32)), .val (.ref r_V1_0), .val (.ref b3), .val (.int (0 : Int32)), .val (.int (9 : Int32)), .unset, .val (.int (0 : Int32)), .val (.int (-1 : Int32))] [(.int (-1 : Int32))]))
      refine own_go (fun _ hr => XS.ifNo X9.here hx rfl (hb hby at_163) rfl ((if0 _ _).trans (feq (by decide)).1) (XS.iconst X9.here hx rfl (hb hby at_166) (XS.istore X9.here hx rfl (hb hby at_167) rfl (l' := #[.val (.int x0), .val (.int x1), .val (.int x2), .val (.int (0 : Int32)), .val (.ref r_V1_0), .val (.ref b3), .val (.int (0 : Int32)), .val (.int (9 : Int32)), .val (.int (0 : Int32)), .val (.int (0 : Int32)), .val (.int (-1 : Int32))]) rfl (XS.goto X9.here hx rfl (pc0 := 169) (pc' := 187) rfl (hb hby at_169) (by decide) (by decide) (XS.aload X9.here hx rfl (hb hby at_187) rfl rfl (XS.iload X9.here hx rfl (hb hby at_189) rfl hr)))))) ?_
      show own_Go p e below _ (T9.setTop (mkF m 191 #[.val (.int x0), .val (.int x1), .val (.int x2), .val (.int (0 : Int32)), .val (.ref r_V1_0), .val (.ref b3), .val (.int (0 : Int32)), .val (.int (9 : Int32)), .val (.int (0 : Int32)), .val (.int (0 : Int32)), .val (.int (-1 : Int32))] [(.int (9 : Int32)), (.ref r_V1_0)]))
      have f15 := (((((S_V1_1.ext E3).wr W6).wr W7).wr W8).wr W9)
      have Z16 := (Nat.le_trans (Nat.le_trans (Nat.le_trans (Nat.le_trans (Nat.le_trans Z0 E3.1) (Nat.le_of_eq W6.size.symm)) (Nat.le_of_eq W7.size.symm)) (Nat.le_of_eq W8.size.symm)) (Nat.le_of_eq W9.size.symm))
      have f17 := (((((E_V1_0.ext E3).wr W6).wr W7).wr W8).wr W9)
      refine own_cv X9 hx hZ hown (notFace_of_selects (args := #[]) (mvT hZ (hw _ (own_m 8 rfl)))) (hw _ (own_m 5 rfl)) (hw _ (own_m 6 rfl)) (hw _ (own_m 8 rfl)) (hw _ (own_m 7 rfl)) (hw _ (own_m 1 rfl)) (hw _ (own_m 9 rfl)) (by decide) f17 (rm := { frames := 0, cells := 0, slots := 0, locals := 0 }) (rm_a1_endsLine l Z a0 hw [] r_V1_0 r_V1_1 h9 n0 Z16 f15 ne_V1_0_V1_1) (by decide) (W := 0) (by decide) (by decide) (by decide) e9 (by rw [hml]; rfl) (argsL := [(.int (9 : Int32))]) (lenOf own_pd0 rfl) (rest := []) rfl rfl (Nat.le_of_eq rfl) (hb hby at_191) ?_
      intro _ T14 L14 X14 hQ14
      obtain ⟨rfl, N14q, e14⟩ := hQ14
      have N14 := Fr.app N9 N14q
      show own_Go p e below _ (T14.setTop (mkF m 194 #[.val (.int x0), .val (.int x1), .val (.int x2), .val (.int (0 : Int32)), .val (.ref r_V1_0), .val (.ref b3), .val (.int (0 : Int32)), .val (.int (9 : Int32)), .val (.int (0 : Int32)), .val (.int (0 : Int32)), .val (.int (-1 : Int32))] [(.int (0 : Int32))]))
      refine own_go (fun _ hr => XS.iload X14.here hx rfl (hb hby at_194) rfl (XS.icmpNo X14.here hx rfl (hb hby at_196) rfl (teq (by decide)).2 (XS.iconst X14.here hx rfl (hb hby at_199) (XS.goto X14.here hx rfl (pc0 := 200) (pc' := 204) rfl (hb hby at_200) (by decide) (by decide) hr)))) ?_
      show own_Go p e below _ (T14.setTop (mkF m 204 #[.val (.int x0), .val (.int x1), .val (.int x2), .val (.int (0 : Int32)), .val (.ref r_V1_0), .val (.ref b3), .val (.int (0 : Int32)), .val (.int (9 : Int32)), .val (.int (0 : Int32)), .val (.int (0 : Int32)), .val (.int (-1 : Int32))] [(.int (1 : Int32))]))
      exact own_retN X14 hx hlk Bd.returns (t := .boolean) (by simp) (hb hby at_204) (by decide) (by decide) ⟨rfl, N14⟩
    · rw [hk11]
      show own_Go p e below _ (T9.setTop (mkF m 63 #[.val (.int x0), .val (.int x1), .val (.int x2), .val (.int (0 : Int32)), .val (.ref r_V1_0), .val (.ref b3), .val (.int (1 : Int32)), .unset, .unset, .unset, .unset] []))
      refine own_go (fun _ hr => XS.iload X9.here hx rfl (hb hby at_63) rfl (XS.bipush X9.here hx rfl (hb hby at_65) (XS.icmpYes X9.here hx rfl (pc0 := 67) (pc' := 137) rfl (hb hby at_67) rfl (feq (by decide)).2 (by decide) (by decide) (XS.iload X9.here hx rfl (hb hby at_137) rfl (XS.iconst X9.here hx rfl (hb hby at_139) hr))))) ?_
      show own_Go p e below _ (T9.setTop (mkF m 140 #[.val (.int x0), .val (.int x1), .val (.int x2), .val (.int (0 : Int32)), .val (.ref r_V1_0), .val (.ref b3), .val (.int (1 : Int32)), .unset, .unset, .unset, .unset] [(.int (3 : Int32)), (.int (1 : Int32))]))
      have nz18 : (3 : Int32) ≠ (0 : Int32) := by decide
      refine own_go (fun _ hr => XS.idiv X9.here hx rfl (hb hby at_140) rfl nz18 hr) ?_
      show own_Go p e below _ (T9.setTop (mkF m 141 #[.val (.int x0), .val (.int x1), .val (.int x2), .val (.int (0 : Int32)), .val (.ref r_V1_0), .val (.ref b3), .val (.int (1 : Int32)), .unset, .unset, .unset, .unset] [(.int (0 : Int32))]))
      refine own_go (fun _ hr => XS.istore X9.here hx rfl (hb hby at_141) rfl (l' := #[.val (.int x0), .val (.int x1), .val (.int x2), .val (.int (0 : Int32)), .val (.ref r_V1_0), .val (.ref b3), .val (.int (1 : Int32)), .unset, .unset, .val (.int (0 : Int32)), .unset]) rfl (XS.iload X9.here hx rfl (hb hby at_143) rfl (XS.iconst X9.here hx rfl (hb hby at_145) hr))) ?_
      show own_Go p e below _ (T9.setTop (mkF m 146 #[.val (.int x0), .val (.int x1), .val (.int x2), .val (.int (0 : Int32)), .val (.ref r_V1_0), .val (.ref b3), .val (.int (1 : Int32)), .unset, .unset, .val (.int (0 : Int32)), .unset] [(.int (3 : Int32)), (.int (1 : Int32))]))
      have nz19 : (3 : Int32) ≠ (0 : Int32) := by decide
      refine own_go (fun _ hr => iremM X9 hx rfl (hb hby at_146) rfl nz19 hr) ?_
      show own_Go p e below _ (T9.setTop (mkF m 147 #[.val (.int x0), .val (.int x1), .val (.int x2), .val (.int (0 : Int32)), .val (.ref r_V1_0), .val (.ref b3), .val (.int (1 : Int32)), .unset, .unset, .val (.int (0 : Int32)), .unset] [(.int (1 : Int32))]))
      refine own_go (fun _ hr => XS.iconst X9.here hx rfl (hb hby at_147) (XS.isub X9.here hx rfl (hb hby at_148) rfl (XS.istore X9.here hx rfl (hb hby at_149) rfl (l' := #[.val (.int x0), .val (.int x1), .val (.int x2), .val (.int (0 : Int32)), .val (.ref r_V1_0), .val (.ref b3), .val (.int (1 : Int32)), .unset, .unset, .val (.int (0 : Int32)), .val (.int (0 : Int32))]) rfl (XS.aload X9.here hx rfl (hb hby at_151) rfl rfl (XS.iload X9.here hx rfl (hb hby at_153) rfl (own_iaload X9 hx hZ e9 f9 (0 : Int32) (.int (10 : Int32)) ⟨by decide, by decide⟩ rfl rfl rfl (hb hby at_155) (XS.iload X9.here hx rfl (hb hby at_156) rfl (XS.iadd X9.here hx rfl (hb hby at_158) rfl (XS.istore X9.here hx rfl (hb hby at_159) rfl (l' := #[.val (.int x0), .val (.int x1), .val (.int x2), .val (.int (0 : Int32)), .val (.ref r_V1_0), .val (.ref b3), .val (.int (1 : Int32)), .val (.int (10 : Int32)), .unset, .val (.int (0 : Int32)), .val (.int (0 : Int32))]) rfl (XS.iload X9.here hx rfl (hb hby at_161) rfl hr)))))))))) ?_
      show own_Go p e below _ (T9.setTop (mkF m 163 #[.val (.int x0), .val (.int x1), .val (.int x2), .val (.int (0 : Int32)), .val (.ref r_V1_0), .val (.ref b3), .val (.int (1 : Int32)), .val (.int (10 : Int32)), .unset, .val (.int (0 : Int32)), .val (.int (0 : Int32))] [(.int (0 : Int32))]))
      refine own_go (fun _ hr => XS.ifYes X9.here hx rfl (pc0 := 163) (pc' := 172) rfl (hb hby at_163) rfl ((if0 _ _).trans (teq (by decide)).1) (by decide) (by decide) (XS.iload X9.here hx rfl (hb hby at_172) rfl (XS.iconst X9.here hx rfl (hb hby at_174) (XS.icmpNo X9.here hx rfl (hb hby at_175) rfl (tlt (by decide)).2.1 (XS.iconst X9.here hx rfl (hb hby at_178) (XS.istore X9.here hx rfl (hb hby at_179) rfl (l' := #[.val (.int x0), .val (.int x1), .val (.int x2), .val (.int (0 : Int32)), .val (.ref r_V1_0), .val (.ref b3), .val (.int (1 : Int32)), .val (.int (10 : Int32)), .val (.int (1 : Int32)), .val (.int (0 : Int32)), .val (.int (0 : Int32))]) rfl (XS.goto X9.here hx rfl (pc0 := 181) (pc' := 187) rfl (hb hby at_181) (by decide) (by decide) (XS.aload X9.here hx rfl (hb hby at_187) rfl rfl (XS.iload X9.here hx rfl (hb hby at_189) rfl hr))))))))) ?_
      show own_Go p e below _ (T9.setTop (mkF m 191 #[.val (.int x0), .val (.int x1), .val (.int x2), .val (.int (0 : Int32)), .val (.ref r_V1_0), .val (.ref b3), .val (.int (1 : Int32)), .val (.int (10 : Int32)), .val (.int (1 : Int32)), .val (.int (0 : Int32)), .val (.int (0 : Int32))] [(.int (10 : Int32)), (.ref r_V1_0)]))
      have Z21 := (Nat.le_trans (Nat.le_trans (Nat.le_trans (Nat.le_trans (Nat.le_trans Z0 E3.1) (Nat.le_of_eq W6.size.symm)) (Nat.le_of_eq W7.size.symm)) (Nat.le_of_eq W8.size.symm)) (Nat.le_of_eq W9.size.symm))
      have f22 := (((((E_V1_0.ext E3).wr W6).wr W7).wr W8).wr W9)
      refine own_cv X9 hx hZ hown (notFace_of_selects (args := #[]) (mvT hZ (hw _ (own_m 8 rfl)))) (hw _ (own_m 5 rfl)) (hw _ (own_m 6 rfl)) (hw _ (own_m 8 rfl)) (hw _ (own_m 7 rfl)) (hw _ (own_m 1 rfl)) (hw _ (own_m 9 rfl)) (by decide) f22 (rm := { frames := 0, cells := 0, slots := 0, locals := 0 }) (rm_a2_endsLine l Z a0 hw [] r_V1_0 h9 n0 Z21 ) (by decide) (W := 0) (by decide) (by decide) (by decide) e9 (by rw [hml]; rfl) (argsL := [(.int (10 : Int32))]) (lenOf own_pd0 rfl) (rest := []) rfl rfl (Nat.le_of_eq rfl) (hb hby at_191) ?_
      intro _ T20 L20 X20 hQ20
      obtain ⟨rfl, N20q, e20⟩ := hQ20
      have N20 := Fr.app N9 N20q
      show own_Go p e below _ (T20.setTop (mkF m 194 #[.val (.int x0), .val (.int x1), .val (.int x2), .val (.int (0 : Int32)), .val (.ref r_V1_0), .val (.ref b3), .val (.int (1 : Int32)), .val (.int (10 : Int32)), .val (.int (1 : Int32)), .val (.int (0 : Int32)), .val (.int (0 : Int32))] [(.int (1 : Int32))]))
      refine own_go (fun _ hr => XS.iload X20.here hx rfl (hb hby at_194) rfl (XS.icmpNo X20.here hx rfl (hb hby at_196) rfl (teq (by decide)).2 (XS.iconst X20.here hx rfl (hb hby at_199) (XS.goto X20.here hx rfl (pc0 := 200) (pc' := 204) rfl (hb hby at_200) (by decide) (by decide) hr)))) ?_
      show own_Go p e below _ (T20.setTop (mkF m 204 #[.val (.int x0), .val (.int x1), .val (.int x2), .val (.int (0 : Int32)), .val (.ref r_V1_0), .val (.ref b3), .val (.int (1 : Int32)), .val (.int (10 : Int32)), .val (.int (1 : Int32)), .val (.int (0 : Int32)), .val (.int (0 : Int32))] [(.int (1 : Int32))]))
      exact own_retN X20 hx hlk Bd.returns (t := .boolean) (by simp) (hb hby at_204) (by decide) (by decide) ⟨rfl, N20⟩
    · rw [hk11]
      show own_Go p e below _ (T9.setTop (mkF m 63 #[.val (.int x0), .val (.int x1), .val (.int x2), .val (.int (0 : Int32)), .val (.ref r_V1_0), .val (.ref b3), .val (.int (2 : Int32)), .unset, .unset, .unset, .unset] []))
      refine own_go (fun _ hr => XS.iload X9.here hx rfl (hb hby at_63) rfl (XS.bipush X9.here hx rfl (hb hby at_65) (XS.icmpYes X9.here hx rfl (pc0 := 67) (pc' := 137) rfl (hb hby at_67) rfl (feq (by decide)).2 (by decide) (by decide) (XS.iload X9.here hx rfl (hb hby at_137) rfl (XS.iconst X9.here hx rfl (hb hby at_139) hr))))) ?_
      show own_Go p e below _ (T9.setTop (mkF m 140 #[.val (.int x0), .val (.int x1), .val (.int x2), .val (.int (0 : Int32)), .val (.ref r_V1_0), .val (.ref b3), .val (.int (2 : Int32)), .unset, .unset, .unset, .unset] [(.int (3 : Int32)), (.int (2 : Int32))]))
      have nz23 : (3 : Int32) ≠ (0 : Int32) := by decide
      refine own_go (fun _ hr => XS.idiv X9.here hx rfl (hb hby at_140) rfl nz23 hr) ?_
      show own_Go p e below _ (T9.setTop (mkF m 141 #[.val (.int x0), .val (.int x1), .val (.int x2), .val (.int (0 : Int32)), .val (.ref r_V1_0), .val (.ref b3), .val (.int (2 : Int32)), .unset, .unset, .unset, .unset] [(.int (0 : Int32))]))
      refine own_go (fun _ hr => XS.istore X9.here hx rfl (hb hby at_141) rfl (l' := #[.val (.int x0), .val (.int x1), .val (.int x2), .val (.int (0 : Int32)), .val (.ref r_V1_0), .val (.ref b3), .val (.int (2 : Int32)), .unset, .unset, .val (.int (0 : Int32)), .unset]) rfl (XS.iload X9.here hx rfl (hb hby at_143) rfl (XS.iconst X9.here hx rfl (hb hby at_145) hr))) ?_
      show own_Go p e below _ (T9.setTop (mkF m 146 #[.val (.int x0), .val (.int x1), .val (.int x2), .val (.int (0 : Int32)), .val (.ref r_V1_0), .val (.ref b3), .val (.int (2 : Int32)), .unset, .unset, .val (.int (0 : Int32)), .unset] [(.int (3 : Int32)), (.int (2 : Int32))]))
      have nz24 : (3 : Int32) ≠ (0 : Int32) := by decide
      refine own_go (fun _ hr => iremM X9 hx rfl (hb hby at_146) rfl nz24 hr) ?_
      show own_Go p e below _ (T9.setTop (mkF m 147 #[.val (.int x0), .val (.int x1), .val (.int x2), .val (.int (0 : Int32)), .val (.ref r_V1_0), .val (.ref b3), .val (.int (2 : Int32)), .unset, .unset, .val (.int (0 : Int32)), .unset] [(.int (2 : Int32))]))
      refine own_go (fun _ hr => XS.iconst X9.here hx rfl (hb hby at_147) (XS.isub X9.here hx rfl (hb hby at_148) rfl (XS.istore X9.here hx rfl (hb hby at_149) rfl (l' := #[.val (.int x0), .val (.int x1), .val (.int x2), .val (.int (0 : Int32)), .val (.ref r_V1_0), .val (.ref b3), .val (.int (2 : Int32)), .unset, .unset, .val (.int (0 : Int32)), .val (.int (1 : Int32))]) rfl (XS.aload X9.here hx rfl (hb hby at_151) rfl rfl (XS.iload X9.here hx rfl (hb hby at_153) rfl (own_iaload X9 hx hZ e9 f9 (0 : Int32) (.int (10 : Int32)) ⟨by decide, by decide⟩ rfl rfl rfl (hb hby at_155) (XS.iload X9.here hx rfl (hb hby at_156) rfl (XS.iadd X9.here hx rfl (hb hby at_158) rfl (XS.istore X9.here hx rfl (hb hby at_159) rfl (l' := #[.val (.int x0), .val (.int x1), .val (.int x2), .val (.int (0 : Int32)), .val (.ref r_V1_0), .val (.ref b3), .val (.int (2 : Int32)), .val (.int (11 : Int32)), .unset, .val (.int (0 : Int32)), .val (.int (1 : Int32))]) rfl (XS.iload X9.here hx rfl (hb hby at_161) rfl hr)))))))))) ?_
      show own_Go p e below _ (T9.setTop (mkF m 163 #[.val (.int x0), .val (.int x1), .val (.int x2), .val (.int (0 : Int32)), .val (.ref r_V1_0), .val (.ref b3), .val (.int (2 : Int32)), .val (.int (11 : Int32)), .unset, .val (.int (0 : Int32)), .val (.int (1 : Int32))] [(.int (1 : Int32))]))
      refine own_go (fun _ hr => XS.ifNo X9.here hx rfl (hb hby at_163) rfl ((if0 _ _).trans (feq (by decide)).1) (XS.iconst X9.here hx rfl (hb hby at_166) (XS.istore X9.here hx rfl (hb hby at_167) rfl (l' := #[.val (.int x0), .val (.int x1), .val (.int x2), .val (.int (0 : Int32)), .val (.ref r_V1_0), .val (.ref b3), .val (.int (2 : Int32)), .val (.int (11 : Int32)), .val (.int (0 : Int32)), .val (.int (0 : Int32)), .val (.int (1 : Int32))]) rfl (XS.goto X9.here hx rfl (pc0 := 169) (pc' := 187) rfl (hb hby at_169) (by decide) (by decide) (XS.aload X9.here hx rfl (hb hby at_187) rfl rfl (XS.iload X9.here hx rfl (hb hby at_189) rfl hr)))))) ?_
      show own_Go p e below _ (T9.setTop (mkF m 191 #[.val (.int x0), .val (.int x1), .val (.int x2), .val (.int (0 : Int32)), .val (.ref r_V1_0), .val (.ref b3), .val (.int (2 : Int32)), .val (.int (11 : Int32)), .val (.int (0 : Int32)), .val (.int (0 : Int32)), .val (.int (1 : Int32))] [(.int (11 : Int32)), (.ref r_V1_0)]))
      have f26 := (((((S_V1_1.ext E3).wr W6).wr W7).wr W8).wr W9)
      have Z27 := (Nat.le_trans (Nat.le_trans (Nat.le_trans (Nat.le_trans (Nat.le_trans Z0 E3.1) (Nat.le_of_eq W6.size.symm)) (Nat.le_of_eq W7.size.symm)) (Nat.le_of_eq W8.size.symm)) (Nat.le_of_eq W9.size.symm))
      have f28 := (((((E_V1_0.ext E3).wr W6).wr W7).wr W8).wr W9)
      refine own_cv X9 hx hZ hown (notFace_of_selects (args := #[]) (mvT hZ (hw _ (own_m 8 rfl)))) (hw _ (own_m 5 rfl)) (hw _ (own_m 6 rfl)) (hw _ (own_m 8 rfl)) (hw _ (own_m 7 rfl)) (hw _ (own_m 1 rfl)) (hw _ (own_m 9 rfl)) (by decide) f28 (rm := { frames := 0, cells := 0, slots := 0, locals := 0 }) (rm_a3_endsLine l Z a0 hw [] r_V1_0 r_V1_1 h9 n0 Z27 f26 ne_V1_0_V1_1) (by decide) (W := 0) (by decide) (by decide) (by decide) e9 (by rw [hml]; rfl) (argsL := [(.int (11 : Int32))]) (lenOf own_pd0 rfl) (rest := []) rfl rfl (Nat.le_of_eq rfl) (hb hby at_191) ?_
      intro _ T25 L25 X25 hQ25
      obtain ⟨rfl, N25q, e25⟩ := hQ25
      have N25 := Fr.app N9 N25q
      show own_Go p e below _ (T25.setTop (mkF m 194 #[.val (.int x0), .val (.int x1), .val (.int x2), .val (.int (0 : Int32)), .val (.ref r_V1_0), .val (.ref b3), .val (.int (2 : Int32)), .val (.int (11 : Int32)), .val (.int (0 : Int32)), .val (.int (0 : Int32)), .val (.int (1 : Int32))] [(.int (0 : Int32))]))
      refine own_go (fun _ hr => XS.iload X25.here hx rfl (hb hby at_194) rfl (XS.icmpNo X25.here hx rfl (hb hby at_196) rfl (teq (by decide)).2 (XS.iconst X25.here hx rfl (hb hby at_199) (XS.goto X25.here hx rfl (pc0 := 200) (pc' := 204) rfl (hb hby at_200) (by decide) (by decide) hr)))) ?_
      show own_Go p e below _ (T25.setTop (mkF m 204 #[.val (.int x0), .val (.int x1), .val (.int x2), .val (.int (0 : Int32)), .val (.ref r_V1_0), .val (.ref b3), .val (.int (2 : Int32)), .val (.int (11 : Int32)), .val (.int (0 : Int32)), .val (.int (0 : Int32)), .val (.int (1 : Int32))] [(.int (1 : Int32))]))
      exact own_retN X25 hx hlk Bd.returns (t := .boolean) (by simp) (hb hby at_204) (by decide) (by decide) ⟨rfl, N25⟩
    · rw [hk11]
      show own_Go p e below _ (T9.setTop (mkF m 63 #[.val (.int x0), .val (.int x1), .val (.int x2), .val (.int (0 : Int32)), .val (.ref r_V1_0), .val (.ref b3), .val (.int (3 : Int32)), .unset, .unset, .unset, .unset] []))
      refine own_go (fun _ hr => XS.iload X9.here hx rfl (hb hby at_63) rfl (XS.bipush X9.here hx rfl (hb hby at_65) (XS.icmpYes X9.here hx rfl (pc0 := 67) (pc' := 137) rfl (hb hby at_67) rfl (feq (by decide)).2 (by decide) (by decide) (XS.iload X9.here hx rfl (hb hby at_137) rfl (XS.iconst X9.here hx rfl (hb hby at_139) hr))))) ?_
      show own_Go p e below _ (T9.setTop (mkF m 140 #[.val (.int x0), .val (.int x1), .val (.int x2), .val (.int (0 : Int32)), .val (.ref r_V1_0), .val (.ref b3), .val (.int (3 : Int32)), .unset, .unset, .unset, .unset] [(.int (3 : Int32)), (.int (3 : Int32))]))
      have nz29 : (3 : Int32) ≠ (0 : Int32) := by decide
      refine own_go (fun _ hr => XS.idiv X9.here hx rfl (hb hby at_140) rfl nz29 hr) ?_
      show own_Go p e below _ (T9.setTop (mkF m 141 #[.val (.int x0), .val (.int x1), .val (.int x2), .val (.int (0 : Int32)), .val (.ref r_V1_0), .val (.ref b3), .val (.int (3 : Int32)), .unset, .unset, .unset, .unset] [(.int (1 : Int32))]))
      refine own_go (fun _ hr => XS.istore X9.here hx rfl (hb hby at_141) rfl (l' := #[.val (.int x0), .val (.int x1), .val (.int x2), .val (.int (0 : Int32)), .val (.ref r_V1_0), .val (.ref b3), .val (.int (3 : Int32)), .unset, .unset, .val (.int (1 : Int32)), .unset]) rfl (XS.iload X9.here hx rfl (hb hby at_143) rfl (XS.iconst X9.here hx rfl (hb hby at_145) hr))) ?_
      show own_Go p e below _ (T9.setTop (mkF m 146 #[.val (.int x0), .val (.int x1), .val (.int x2), .val (.int (0 : Int32)), .val (.ref r_V1_0), .val (.ref b3), .val (.int (3 : Int32)), .unset, .unset, .val (.int (1 : Int32)), .unset] [(.int (3 : Int32)), (.int (3 : Int32))]))
      have nz30 : (3 : Int32) ≠ (0 : Int32) := by decide
      refine own_go (fun _ hr => iremM X9 hx rfl (hb hby at_146) rfl nz30 hr) ?_
      show own_Go p e below _ (T9.setTop (mkF m 147 #[.val (.int x0), .val (.int x1), .val (.int x2), .val (.int (0 : Int32)), .val (.ref r_V1_0), .val (.ref b3), .val (.int (3 : Int32)), .unset, .unset, .val (.int (1 : Int32)), .unset] [(.int (0 : Int32))]))
      refine own_go (fun _ hr => XS.iconst X9.here hx rfl (hb hby at_147) (XS.isub X9.here hx rfl (hb hby at_148) rfl (XS.istore X9.here hx rfl (hb hby at_149) rfl (l' := #[.val (.int x0), .val (.int x1), .val (.int x2), .val (.int (0 : Int32)), .val (.ref r_V1_0), .val (.ref b3), .val (.int (3 : Int32)), .unset, .unset, .val (.int (1 : Int32)), .val (.int (-1 : Int32))]) rfl (XS.aload X9.here hx rfl (hb hby at_151) rfl rfl (XS.iload X9.here hx rfl (hb hby at_153) rfl (own_iaload X9 hx hZ e9 f9 (1 : Int32) (.int (13 : Int32)) ⟨by decide, by decide⟩ rfl rfl rfl (hb hby at_155) (XS.iload X9.here hx rfl (hb hby at_156) rfl (XS.iadd X9.here hx rfl (hb hby at_158) rfl (XS.istore X9.here hx rfl (hb hby at_159) rfl (l' := #[.val (.int x0), .val (.int x1), .val (.int x2), .val (.int (0 : Int32)), .val (.ref r_V1_0), .val (.ref b3), .val (.int (3 : Int32)), .val (.int (12 : Int32)), .unset, .val (.int (1 : Int32)), .val (.int (-1 : Int32))]) rfl (XS.iload X9.here hx rfl (hb hby at_161) rfl hr)))))))))) ?_
      show own_Go p e below _ (T9.setTop (mkF m 163 #[.val (.int x0), .val (.int x1), .val (.int x2), .val (.int (0 : Int32)), .val (.ref r_V1_0), .val (.ref b3), .val (.int (3 : Int32)), .val (.int (12 : Int32)), .unset, .val (.int (1 : Int32)), .val (.int (-1 : Int32))] [(.int (-1 : Int32))]))
      refine own_go (fun _ hr => XS.ifNo X9.here hx rfl (hb hby at_163) rfl ((if0 _ _).trans (feq (by decide)).1) (XS.iconst X9.here hx rfl (hb hby at_166) (XS.istore X9.here hx rfl (hb hby at_167) rfl (l' := #[.val (.int x0), .val (.int x1), .val (.int x2), .val (.int (0 : Int32)), .val (.ref r_V1_0), .val (.ref b3), .val (.int (3 : Int32)), .val (.int (12 : Int32)), .val (.int (0 : Int32)), .val (.int (1 : Int32)), .val (.int (-1 : Int32))]) rfl (XS.goto X9.here hx rfl (pc0 := 169) (pc' := 187) rfl (hb hby at_169) (by decide) (by decide) (XS.aload X9.here hx rfl (hb hby at_187) rfl rfl (XS.iload X9.here hx rfl (hb hby at_189) rfl hr)))))) ?_
      show own_Go p e below _ (T9.setTop (mkF m 191 #[.val (.int x0), .val (.int x1), .val (.int x2), .val (.int (0 : Int32)), .val (.ref r_V1_0), .val (.ref b3), .val (.int (3 : Int32)), .val (.int (12 : Int32)), .val (.int (0 : Int32)), .val (.int (1 : Int32)), .val (.int (-1 : Int32))] [(.int (12 : Int32)), (.ref r_V1_0)]))
      have f32 := (((((S_V1_1.ext E3).wr W6).wr W7).wr W8).wr W9)
      have Z33 := (Nat.le_trans (Nat.le_trans (Nat.le_trans (Nat.le_trans (Nat.le_trans Z0 E3.1) (Nat.le_of_eq W6.size.symm)) (Nat.le_of_eq W7.size.symm)) (Nat.le_of_eq W8.size.symm)) (Nat.le_of_eq W9.size.symm))
      have f34 := (((((E_V1_0.ext E3).wr W6).wr W7).wr W8).wr W9)
      refine own_cv X9 hx hZ hown (notFace_of_selects (args := #[]) (mvT hZ (hw _ (own_m 8 rfl)))) (hw _ (own_m 5 rfl)) (hw _ (own_m 6 rfl)) (hw _ (own_m 8 rfl)) (hw _ (own_m 7 rfl)) (hw _ (own_m 1 rfl)) (hw _ (own_m 9 rfl)) (by decide) f34 (rm := { frames := 0, cells := 0, slots := 0, locals := 0 }) (rm_a4_endsLine l Z a0 hw [] r_V1_0 r_V1_1 h9 n0 Z33 f32 ne_V1_0_V1_1) (by decide) (W := 0) (by decide) (by decide) (by decide) e9 (by rw [hml]; rfl) (argsL := [(.int (12 : Int32))]) (lenOf own_pd0 rfl) (rest := []) rfl rfl (Nat.le_of_eq rfl) (hb hby at_191) ?_
      intro _ T31 L31 X31 hQ31
      obtain ⟨rfl, N31q, e31⟩ := hQ31
      have N31 := Fr.app N9 N31q
      show own_Go p e below _ (T31.setTop (mkF m 194 #[.val (.int x0), .val (.int x1), .val (.int x2), .val (.int (0 : Int32)), .val (.ref r_V1_0), .val (.ref b3), .val (.int (3 : Int32)), .val (.int (12 : Int32)), .val (.int (0 : Int32)), .val (.int (1 : Int32)), .val (.int (-1 : Int32))] [(.int (0 : Int32))]))
      refine own_go (fun _ hr => XS.iload X31.here hx rfl (hb hby at_194) rfl (XS.icmpNo X31.here hx rfl (hb hby at_196) rfl (teq (by decide)).2 (XS.iconst X31.here hx rfl (hb hby at_199) (XS.goto X31.here hx rfl (pc0 := 200) (pc' := 204) rfl (hb hby at_200) (by decide) (by decide) hr)))) ?_
      show own_Go p e below _ (T31.setTop (mkF m 204 #[.val (.int x0), .val (.int x1), .val (.int x2), .val (.int (0 : Int32)), .val (.ref r_V1_0), .val (.ref b3), .val (.int (3 : Int32)), .val (.int (12 : Int32)), .val (.int (0 : Int32)), .val (.int (1 : Int32)), .val (.int (-1 : Int32))] [(.int (1 : Int32))]))
      exact own_retN X31 hx hlk Bd.returns (t := .boolean) (by simp) (hb hby at_204) (by decide) (by decide) ⟨rfl, N31⟩
    · rw [hk11]
      show own_Go p e below _ (T9.setTop (mkF m 63 #[.val (.int x0), .val (.int x1), .val (.int x2), .val (.int (0 : Int32)), .val (.ref r_V1_0), .val (.ref b3), .val (.int (4 : Int32)), .unset, .unset, .unset, .unset] []))
      refine own_go (fun _ hr => XS.iload X9.here hx rfl (hb hby at_63) rfl (XS.bipush X9.here hx rfl (hb hby at_65) (XS.icmpYes X9.here hx rfl (pc0 := 67) (pc' := 137) rfl (hb hby at_67) rfl (feq (by decide)).2 (by decide) (by decide) (XS.iload X9.here hx rfl (hb hby at_137) rfl (XS.iconst X9.here hx rfl (hb hby at_139) hr))))) ?_
      show own_Go p e below _ (T9.setTop (mkF m 140 #[.val (.int x0), .val (.int x1), .val (.int x2), .val (.int (0 : Int32)), .val (.ref r_V1_0), .val (.ref b3), .val (.int (4 : Int32)), .unset, .unset, .unset, .unset] [(.int (3 : Int32)), (.int (4 : Int32))]))
      have nz35 : (3 : Int32) ≠ (0 : Int32) := by decide
      refine own_go (fun _ hr => XS.idiv X9.here hx rfl (hb hby at_140) rfl nz35 hr) ?_
      show own_Go p e below _ (T9.setTop (mkF m 141 #[.val (.int x0), .val (.int x1), .val (.int x2), .val (.int (0 : Int32)), .val (.ref r_V1_0), .val (.ref b3), .val (.int (4 : Int32)), .unset, .unset, .unset, .unset] [(.int (1 : Int32))]))
      refine own_go (fun _ hr => XS.istore X9.here hx rfl (hb hby at_141) rfl (l' := #[.val (.int x0), .val (.int x1), .val (.int x2), .val (.int (0 : Int32)), .val (.ref r_V1_0), .val (.ref b3), .val (.int (4 : Int32)), .unset, .unset, .val (.int (1 : Int32)), .unset]) rfl (XS.iload X9.here hx rfl (hb hby at_143) rfl (XS.iconst X9.here hx rfl (hb hby at_145) hr))) ?_
      show own_Go p e below _ (T9.setTop (mkF m 146 #[.val (.int x0), .val (.int x1), .val (.int x2), .val (.int (0 : Int32)), .val (.ref r_V1_0), .val (.ref b3), .val (.int (4 : Int32)), .unset, .unset, .val (.int (1 : Int32)), .unset] [(.int (3 : Int32)), (.int (4 : Int32))]))
      have nz36 : (3 : Int32) ≠ (0 : Int32) := by decide
      refine own_go (fun _ hr => iremM X9 hx rfl (hb hby at_146) rfl nz36 hr) ?_
      show own_Go p e below _ (T9.setTop (mkF m 147 #[.val (.int x0), .val (.int x1), .val (.int x2), .val (.int (0 : Int32)), .val (.ref r_V1_0), .val (.ref b3), .val (.int (4 : Int32)), .unset, .unset, .val (.int (1 : Int32)), .unset] [(.int (1 : Int32))]))
      refine own_go (fun _ hr => XS.iconst X9.here hx rfl (hb hby at_147) (XS.isub X9.here hx rfl (hb hby at_148) rfl (XS.istore X9.here hx rfl (hb hby at_149) rfl (l' := #[.val (.int x0), .val (.int x1), .val (.int x2), .val (.int (0 : Int32)), .val (.ref r_V1_0), .val (.ref b3), .val (.int (4 : Int32)), .unset, .unset, .val (.int (1 : Int32)), .val (.int (0 : Int32))]) rfl (XS.aload X9.here hx rfl (hb hby at_151) rfl rfl (XS.iload X9.here hx rfl (hb hby at_153) rfl (own_iaload X9 hx hZ e9 f9 (1 : Int32) (.int (13 : Int32)) ⟨by decide, by decide⟩ rfl rfl rfl (hb hby at_155) (XS.iload X9.here hx rfl (hb hby at_156) rfl (XS.iadd X9.here hx rfl (hb hby at_158) rfl (XS.istore X9.here hx rfl (hb hby at_159) rfl (l' := #[.val (.int x0), .val (.int x1), .val (.int x2), .val (.int (0 : Int32)), .val (.ref r_V1_0), .val (.ref b3), .val (.int (4 : Int32)), .val (.int (13 : Int32)), .unset, .val (.int (1 : Int32)), .val (.int (0 : Int32))]) rfl (XS.iload X9.here hx rfl (hb hby at_161) rfl hr)))))))))) ?_
      show own_Go p e below _ (T9.setTop (mkF m 163 #[.val (.int x0), .val (.int x1), .val (.int x2), .val (.int (0 : Int32)), .val (.ref r_V1_0), .val (.ref b3), .val (.int (4 : Int32)), .val (.int (13 : Int32)), .unset, .val (.int (1 : Int32)), .val (.int (0 : Int32))] [(.int (0 : Int32))]))
      refine own_go (fun _ hr => XS.ifYes X9.here hx rfl (pc0 := 163) (pc' := 172) rfl (hb hby at_163) rfl ((if0 _ _).trans (teq (by decide)).1) (by decide) (by decide) (XS.iload X9.here hx rfl (hb hby at_172) rfl (XS.iconst X9.here hx rfl (hb hby at_174) (XS.icmpNo X9.here hx rfl (hb hby at_175) rfl (tlt (by decide)).2.1 (XS.iconst X9.here hx rfl (hb hby at_178) (XS.istore X9.here hx rfl (hb hby at_179) rfl (l' := #[.val (.int x0), .val (.int x1), .val (.int x2), .val (.int (0 : Int32)), .val (.ref r_V1_0), .val (.ref b3), .val (.int (4 : Int32)), .val (.int (13 : Int32)), .val (.int (1 : Int32)), .val (.int (1 : Int32)), .val (.int (0 : Int32))]) rfl (XS.goto X9.here hx rfl (pc0 := 181) (pc' := 187) rfl (hb hby at_181) (by decide) (by decide) (XS.aload X9.here hx rfl (hb hby at_187) rfl rfl (XS.iload X9.here hx rfl (hb hby at_189) rfl hr))))))))) ?_
      show own_Go p e below _ (T9.setTop (mkF m 191 #[.val (.int x0), .val (.int x1), .val (.int x2), .val (.int (0 : Int32)), .val (.ref r_V1_0), .val (.ref b3), .val (.int (4 : Int32)), .val (.int (13 : Int32)), .val (.int (1 : Int32)), .val (.int (1 : Int32)), .val (.int (0 : Int32))] [(.int (13 : Int32)), (.ref r_V1_0)]))
      have Z38 := (Nat.le_trans (Nat.le_trans (Nat.le_trans (Nat.le_trans (Nat.le_trans Z0 E3.1) (Nat.le_of_eq W6.size.symm)) (Nat.le_of_eq W7.size.symm)) (Nat.le_of_eq W8.size.symm)) (Nat.le_of_eq W9.size.symm))
      have f39 := (((((E_V1_0.ext E3).wr W6).wr W7).wr W8).wr W9)
      refine own_cv X9 hx hZ hown (notFace_of_selects (args := #[]) (mvT hZ (hw _ (own_m 8 rfl)))) (hw _ (own_m 5 rfl)) (hw _ (own_m 6 rfl)) (hw _ (own_m 8 rfl)) (hw _ (own_m 7 rfl)) (hw _ (own_m 1 rfl)) (hw _ (own_m 9 rfl)) (by decide) f39 (rm := { frames := 0, cells := 0, slots := 0, locals := 0 }) (rm_a5_endsLine l Z a0 hw [] r_V1_0 h9 n0 Z38 ) (by decide) (W := 0) (by decide) (by decide) (by decide) e9 (by rw [hml]; rfl) (argsL := [(.int (13 : Int32))]) (lenOf own_pd0 rfl) (rest := []) rfl rfl (Nat.le_of_eq rfl) (hb hby at_191) ?_
      intro _ T37 L37 X37 hQ37
      obtain ⟨rfl, N37q, e37⟩ := hQ37
      have N37 := Fr.app N9 N37q
      show own_Go p e below _ (T37.setTop (mkF m 194 #[.val (.int x0), .val (.int x1), .val (.int x2), .val (.int (0 : Int32)), .val (.ref r_V1_0), .val (.ref b3), .val (.int (4 : Int32)), .val (.int (13 : Int32)), .val (.int (1 : Int32)), .val (.int (1 : Int32)), .val (.int (0 : Int32))] [(.int (1 : Int32))]))
      refine own_go (fun _ hr => XS.iload X37.here hx rfl (hb hby at_194) rfl (XS.icmpNo X37.here hx rfl (hb hby at_196) rfl (teq (by decide)).2 (XS.iconst X37.here hx rfl (hb hby at_199) (XS.goto X37.here hx rfl (pc0 := 200) (pc' := 204) rfl (hb hby at_200) (by decide) (by decide) hr)))) ?_
      show own_Go p e below _ (T37.setTop (mkF m 204 #[.val (.int x0), .val (.int x1), .val (.int x2), .val (.int (0 : Int32)), .val (.ref r_V1_0), .val (.ref b3), .val (.int (4 : Int32)), .val (.int (13 : Int32)), .val (.int (1 : Int32)), .val (.int (1 : Int32)), .val (.int (0 : Int32))] [(.int (1 : Int32))]))
      exact own_retN X37 hx hlk Bd.returns (t := .boolean) (by simp) (hb hby at_204) (by decide) (by decide) ⟨rfl, N37⟩
    · rw [hk11]
      show own_Go p e below _ (T9.setTop (mkF m 63 #[.val (.int x0), .val (.int x1), .val (.int x2), .val (.int (0 : Int32)), .val (.ref r_V1_0), .val (.ref b3), .val (.int (5 : Int32)), .unset, .unset, .unset, .unset] []))
      refine own_go (fun _ hr => XS.iload X9.here hx rfl (hb hby at_63) rfl (XS.bipush X9.here hx rfl (hb hby at_65) (XS.icmpYes X9.here hx rfl (pc0 := 67) (pc' := 137) rfl (hb hby at_67) rfl (feq (by decide)).2 (by decide) (by decide) (XS.iload X9.here hx rfl (hb hby at_137) rfl (XS.iconst X9.here hx rfl (hb hby at_139) hr))))) ?_
      show own_Go p e below _ (T9.setTop (mkF m 140 #[.val (.int x0), .val (.int x1), .val (.int x2), .val (.int (0 : Int32)), .val (.ref r_V1_0), .val (.ref b3), .val (.int (5 : Int32)), .unset, .unset, .unset, .unset] [(.int (3 : Int32)), (.int (5 : Int32))]))
      have nz40 : (3 : Int32) ≠ (0 : Int32) := by decide
      refine own_go (fun _ hr => XS.idiv X9.here hx rfl (hb hby at_140) rfl nz40 hr) ?_
      show own_Go p e below _ (T9.setTop (mkF m 141 #[.val (.int x0), .val (.int x1), .val (.int x2), .val (.int (0 : Int32)), .val (.ref r_V1_0), .val (.ref b3), .val (.int (5 : Int32)), .unset, .unset, .unset, .unset] [(.int (1 : Int32))]))
      refine own_go (fun _ hr => XS.istore X9.here hx rfl (hb hby at_141) rfl (l' := #[.val (.int x0), .val (.int x1), .val (.int x2), .val (.int (0 : Int32)), .val (.ref r_V1_0), .val (.ref b3), .val (.int (5 : Int32)), .unset, .unset, .val (.int (1 : Int32)), .unset]) rfl (XS.iload X9.here hx rfl (hb hby at_143) rfl (XS.iconst X9.here hx rfl (hb hby at_145) hr))) ?_
      show own_Go p e below _ (T9.setTop (mkF m 146 #[.val (.int x0), .val (.int x1), .val (.int x2), .val (.int (0 : Int32)), .val (.ref r_V1_0), .val (.ref b3), .val (.int (5 : Int32)), .unset, .unset, .val (.int (1 : Int32)), .unset] [(.int (3 : Int32)), (.int (5 : Int32))]))
      have nz41 : (3 : Int32) ≠ (0 : Int32) := by decide
      refine own_go (fun _ hr => iremM X9 hx rfl (hb hby at_146) rfl nz41 hr) ?_
      show own_Go p e below _ (T9.setTop (mkF m 147 #[.val (.int x0), .val (.int x1), .val (.int x2), .val (.int (0 : Int32)), .val (.ref r_V1_0), .val (.ref b3), .val (.int (5 : Int32)), .unset, .unset, .val (.int (1 : Int32)), .unset] [(.int (2 : Int32))]))
      refine own_go (fun _ hr => XS.iconst X9.here hx rfl (hb hby at_147) (XS.isub X9.here hx rfl (hb hby at_148) rfl (XS.istore X9.here hx rfl (hb hby at_149) rfl (l' := #[.val (.int x0), .val (.int x1), .val (.int x2), .val (.int (0 : Int32)), .val (.ref r_V1_0), .val (.ref b3), .val (.int (5 : Int32)), .unset, .unset, .val (.int (1 : Int32)), .val (.int (1 : Int32))]) rfl (XS.aload X9.here hx rfl (hb hby at_151) rfl rfl (XS.iload X9.here hx rfl (hb hby at_153) rfl (own_iaload X9 hx hZ e9 f9 (1 : Int32) (.int (13 : Int32)) ⟨by decide, by decide⟩ rfl rfl rfl (hb hby at_155) (XS.iload X9.here hx rfl (hb hby at_156) rfl (XS.iadd X9.here hx rfl (hb hby at_158) rfl (XS.istore X9.here hx rfl (hb hby at_159) rfl (l' := #[.val (.int x0), .val (.int x1), .val (.int x2), .val (.int (0 : Int32)), .val (.ref r_V1_0), .val (.ref b3), .val (.int (5 : Int32)), .val (.int (14 : Int32)), .unset, .val (.int (1 : Int32)), .val (.int (1 : Int32))]) rfl (XS.iload X9.here hx rfl (hb hby at_161) rfl hr)))))))))) ?_
      show own_Go p e below _ (T9.setTop (mkF m 163 #[.val (.int x0), .val (.int x1), .val (.int x2), .val (.int (0 : Int32)), .val (.ref r_V1_0), .val (.ref b3), .val (.int (5 : Int32)), .val (.int (14 : Int32)), .unset, .val (.int (1 : Int32)), .val (.int (1 : Int32))] [(.int (1 : Int32))]))
      refine own_go (fun _ hr => XS.ifNo X9.here hx rfl (hb hby at_163) rfl ((if0 _ _).trans (feq (by decide)).1) (XS.iconst X9.here hx rfl (hb hby at_166) (XS.istore X9.here hx rfl (hb hby at_167) rfl (l' := #[.val (.int x0), .val (.int x1), .val (.int x2), .val (.int (0 : Int32)), .val (.ref r_V1_0), .val (.ref b3), .val (.int (5 : Int32)), .val (.int (14 : Int32)), .val (.int (0 : Int32)), .val (.int (1 : Int32)), .val (.int (1 : Int32))]) rfl (XS.goto X9.here hx rfl (pc0 := 169) (pc' := 187) rfl (hb hby at_169) (by decide) (by decide) (XS.aload X9.here hx rfl (hb hby at_187) rfl rfl (XS.iload X9.here hx rfl (hb hby at_189) rfl hr)))))) ?_
      show own_Go p e below _ (T9.setTop (mkF m 191 #[.val (.int x0), .val (.int x1), .val (.int x2), .val (.int (0 : Int32)), .val (.ref r_V1_0), .val (.ref b3), .val (.int (5 : Int32)), .val (.int (14 : Int32)), .val (.int (0 : Int32)), .val (.int (1 : Int32)), .val (.int (1 : Int32))] [(.int (14 : Int32)), (.ref r_V1_0)]))
      have f43 := (((((S_V1_1.ext E3).wr W6).wr W7).wr W8).wr W9)
      have Z44 := (Nat.le_trans (Nat.le_trans (Nat.le_trans (Nat.le_trans (Nat.le_trans Z0 E3.1) (Nat.le_of_eq W6.size.symm)) (Nat.le_of_eq W7.size.symm)) (Nat.le_of_eq W8.size.symm)) (Nat.le_of_eq W9.size.symm))
      have f45 := (((((E_V1_0.ext E3).wr W6).wr W7).wr W8).wr W9)
      refine own_cv X9 hx hZ hown (notFace_of_selects (args := #[]) (mvT hZ (hw _ (own_m 8 rfl)))) (hw _ (own_m 5 rfl)) (hw _ (own_m 6 rfl)) (hw _ (own_m 8 rfl)) (hw _ (own_m 7 rfl)) (hw _ (own_m 1 rfl)) (hw _ (own_m 9 rfl)) (by decide) f45 (rm := { frames := 0, cells := 0, slots := 0, locals := 0 }) (rm_a6_endsLine l Z a0 hw [] r_V1_0 r_V1_1 h9 n0 Z44 f43 ne_V1_0_V1_1) (by decide) (W := 0) (by decide) (by decide) (by decide) e9 (by rw [hml]; rfl) (argsL := [(.int (14 : Int32))]) (lenOf own_pd0 rfl) (rest := []) rfl rfl (Nat.le_of_eq rfl) (hb hby at_191) ?_
      intro _ T42 L42 X42 hQ42
      obtain ⟨rfl, N42q, e42⟩ := hQ42
      have N42 := Fr.app N9 N42q
      show own_Go p e below _ (T42.setTop (mkF m 194 #[.val (.int x0), .val (.int x1), .val (.int x2), .val (.int (0 : Int32)), .val (.ref r_V1_0), .val (.ref b3), .val (.int (5 : Int32)), .val (.int (14 : Int32)), .val (.int (0 : Int32)), .val (.int (1 : Int32)), .val (.int (1 : Int32))] [(.int (0 : Int32))]))
      refine own_go (fun _ hr => XS.iload X42.here hx rfl (hb hby at_194) rfl (XS.icmpNo X42.here hx rfl (hb hby at_196) rfl (teq (by decide)).2 (XS.iconst X42.here hx rfl (hb hby at_199) (XS.goto X42.here hx rfl (pc0 := 200) (pc' := 204) rfl (hb hby at_200) (by decide) (by decide) hr)))) ?_
      show own_Go p e below _ (T42.setTop (mkF m 204 #[.val (.int x0), .val (.int x1), .val (.int x2), .val (.int (0 : Int32)), .val (.ref r_V1_0), .val (.ref b3), .val (.int (5 : Int32)), .val (.int (14 : Int32)), .val (.int (0 : Int32)), .val (.int (1 : Int32)), .val (.int (1 : Int32))] [(.int (1 : Int32))]))
      exact own_retN X42 hx hlk Bd.returns (t := .boolean) (by simp) (hb hby at_204) (by decide) (by decide) ⟨rfl, N42⟩
    · rw [hk11]
      show own_Go p e below _ (T9.setTop (mkF m 63 #[.val (.int x0), .val (.int x1), .val (.int x2), .val (.int (0 : Int32)), .val (.ref r_V1_0), .val (.ref b3), .val (.int (6 : Int32)), .unset, .unset, .unset, .unset] []))
      refine own_go (fun _ hr => XS.iload X9.here hx rfl (hb hby at_63) rfl (XS.bipush X9.here hx rfl (hb hby at_65) (XS.icmpYes X9.here hx rfl (pc0 := 67) (pc' := 137) rfl (hb hby at_67) rfl (feq (by decide)).2 (by decide) (by decide) (XS.iload X9.here hx rfl (hb hby at_137) rfl (XS.iconst X9.here hx rfl (hb hby at_139) hr))))) ?_
      show own_Go p e below _ (T9.setTop (mkF m 140 #[.val (.int x0), .val (.int x1), .val (.int x2), .val (.int (0 : Int32)), .val (.ref r_V1_0), .val (.ref b3), .val (.int (6 : Int32)), .unset, .unset, .unset, .unset] [(.int (3 : Int32)), (.int (6 : Int32))]))
      have nz46 : (3 : Int32) ≠ (0 : Int32) := by decide
      refine own_go (fun _ hr => XS.idiv X9.here hx rfl (hb hby at_140) rfl nz46 hr) ?_
      show own_Go p e below _ (T9.setTop (mkF m 141 #[.val (.int x0), .val (.int x1), .val (.int x2), .val (.int (0 : Int32)), .val (.ref r_V1_0), .val (.ref b3), .val (.int (6 : Int32)), .unset, .unset, .unset, .unset] [(.int (2 : Int32))]))
      refine own_go (fun _ hr => XS.istore X9.here hx rfl (hb hby at_141) rfl (l' := #[.val (.int x0), .val (.int x1), .val (.int x2), .val (.int (0 : Int32)), .val (.ref r_V1_0), .val (.ref b3), .val (.int (6 : Int32)), .unset, .unset, .val (.int (2 : Int32)), .unset]) rfl (XS.iload X9.here hx rfl (hb hby at_143) rfl (XS.iconst X9.here hx rfl (hb hby at_145) hr))) ?_
      show own_Go p e below _ (T9.setTop (mkF m 146 #[.val (.int x0), .val (.int x1), .val (.int x2), .val (.int (0 : Int32)), .val (.ref r_V1_0), .val (.ref b3), .val (.int (6 : Int32)), .unset, .unset, .val (.int (2 : Int32)), .unset] [(.int (3 : Int32)), (.int (6 : Int32))]))
      have nz47 : (3 : Int32) ≠ (0 : Int32) := by decide
      refine own_go (fun _ hr => iremM X9 hx rfl (hb hby at_146) rfl nz47 hr) ?_
      show own_Go p e below _ (T9.setTop (mkF m 147 #[.val (.int x0), .val (.int x1), .val (.int x2), .val (.int (0 : Int32)), .val (.ref r_V1_0), .val (.ref b3), .val (.int (6 : Int32)), .unset, .unset, .val (.int (2 : Int32)), .unset] [(.int (0 : Int32))]))
      refine own_go (fun _ hr => XS.iconst X9.here hx rfl (hb hby at_147) (XS.isub X9.here hx rfl (hb hby at_148) rfl (XS.istore X9.here hx rfl (hb hby at_149) rfl (l' := #[.val (.int x0), .val (.int x1), .val (.int x2), .val (.int (0 : Int32)), .val (.ref r_V1_0), .val (.ref b3), .val (.int (6 : Int32)), .unset, .unset, .val (.int (2 : Int32)), .val (.int (-1 : Int32))]) rfl (XS.aload X9.here hx rfl (hb hby at_151) rfl rfl (XS.iload X9.here hx rfl (hb hby at_153) rfl (own_iaload X9 hx hZ e9 f9 (2 : Int32) (.int (133 : Int32)) ⟨by decide, by decide⟩ rfl rfl rfl (hb hby at_155) (XS.iload X9.here hx rfl (hb hby at_156) rfl (XS.iadd X9.here hx rfl (hb hby at_158) rfl (XS.istore X9.here hx rfl (hb hby at_159) rfl (l' := #[.val (.int x0), .val (.int x1), .val (.int x2), .val (.int (0 : Int32)), .val (.ref r_V1_0), .val (.ref b3), .val (.int (6 : Int32)), .val (.int (132 : Int32)), .unset, .val (.int (2 : Int32)), .val (.int (-1 : Int32))]) rfl (XS.iload X9.here hx rfl (hb hby at_161) rfl hr)))))))))) ?_
      show own_Go p e below _ (T9.setTop (mkF m 163 #[.val (.int x0), .val (.int x1), .val (.int x2), .val (.int (0 : Int32)), .val (.ref r_V1_0), .val (.ref b3), .val (.int (6 : Int32)), .val (.int (132 : Int32)), .unset, .val (.int (2 : Int32)), .val (.int (-1 : Int32))] [(.int (-1 : Int32))]))
      refine own_go (fun _ hr => XS.ifNo X9.here hx rfl (hb hby at_163) rfl ((if0 _ _).trans (feq (by decide)).1) (XS.iconst X9.here hx rfl (hb hby at_166) (XS.istore X9.here hx rfl (hb hby at_167) rfl (l' := #[.val (.int x0), .val (.int x1), .val (.int x2), .val (.int (0 : Int32)), .val (.ref r_V1_0), .val (.ref b3), .val (.int (6 : Int32)), .val (.int (132 : Int32)), .val (.int (0 : Int32)), .val (.int (2 : Int32)), .val (.int (-1 : Int32))]) rfl (XS.goto X9.here hx rfl (pc0 := 169) (pc' := 187) rfl (hb hby at_169) (by decide) (by decide) (XS.aload X9.here hx rfl (hb hby at_187) rfl rfl (XS.iload X9.here hx rfl (hb hby at_189) rfl hr)))))) ?_
      show own_Go p e below _ (T9.setTop (mkF m 191 #[.val (.int x0), .val (.int x1), .val (.int x2), .val (.int (0 : Int32)), .val (.ref r_V1_0), .val (.ref b3), .val (.int (6 : Int32)), .val (.int (132 : Int32)), .val (.int (0 : Int32)), .val (.int (2 : Int32)), .val (.int (-1 : Int32))] [(.int (132 : Int32)), (.ref r_V1_0)]))
      have f49 := (((((S_V1_1.ext E3).wr W6).wr W7).wr W8).wr W9)
      have Z50 := (Nat.le_trans (Nat.le_trans (Nat.le_trans (Nat.le_trans (Nat.le_trans Z0 E3.1) (Nat.le_of_eq W6.size.symm)) (Nat.le_of_eq W7.size.symm)) (Nat.le_of_eq W8.size.symm)) (Nat.le_of_eq W9.size.symm))
      have f51 := (((((E_V1_0.ext E3).wr W6).wr W7).wr W8).wr W9)
      refine own_cv X9 hx hZ hown (notFace_of_selects (args := #[]) (mvT hZ (hw _ (own_m 8 rfl)))) (hw _ (own_m 5 rfl)) (hw _ (own_m 6 rfl)) (hw _ (own_m 8 rfl)) (hw _ (own_m 7 rfl)) (hw _ (own_m 1 rfl)) (hw _ (own_m 9 rfl)) (by decide) f51 (rm := { frames := 0, cells := 0, slots := 0, locals := 0 }) (rm_a7_endsLine l Z a0 hw [] r_V1_0 r_V1_1 h9 n0 Z50 f49 ne_V1_0_V1_1) (by decide) (W := 0) (by decide) (by decide) (by decide) e9 (by rw [hml]; rfl) (argsL := [(.int (132 : Int32))]) (lenOf own_pd0 rfl) (rest := []) rfl rfl (Nat.le_of_eq rfl) (hb hby at_191) ?_
      intro _ T48 L48 X48 hQ48
      obtain ⟨rfl, N48q, e48⟩ := hQ48
      have N48 := Fr.app N9 N48q
      show own_Go p e below _ (T48.setTop (mkF m 194 #[.val (.int x0), .val (.int x1), .val (.int x2), .val (.int (0 : Int32)), .val (.ref r_V1_0), .val (.ref b3), .val (.int (6 : Int32)), .val (.int (132 : Int32)), .val (.int (0 : Int32)), .val (.int (2 : Int32)), .val (.int (-1 : Int32))] [(.int (0 : Int32))]))
      refine own_go (fun _ hr => XS.iload X48.here hx rfl (hb hby at_194) rfl (XS.icmpNo X48.here hx rfl (hb hby at_196) rfl (teq (by decide)).2 (XS.iconst X48.here hx rfl (hb hby at_199) (XS.goto X48.here hx rfl (pc0 := 200) (pc' := 204) rfl (hb hby at_200) (by decide) (by decide) hr)))) ?_
      show own_Go p e below _ (T48.setTop (mkF m 204 #[.val (.int x0), .val (.int x1), .val (.int x2), .val (.int (0 : Int32)), .val (.ref r_V1_0), .val (.ref b3), .val (.int (6 : Int32)), .val (.int (132 : Int32)), .val (.int (0 : Int32)), .val (.int (2 : Int32)), .val (.int (-1 : Int32))] [(.int (1 : Int32))]))
      exact own_retN X48 hx hlk Bd.returns (t := .boolean) (by simp) (hb hby at_204) (by decide) (by decide) ⟨rfl, N48⟩
    · rw [hk11]
      show own_Go p e below _ (T9.setTop (mkF m 63 #[.val (.int x0), .val (.int x1), .val (.int x2), .val (.int (0 : Int32)), .val (.ref r_V1_0), .val (.ref b3), .val (.int (7 : Int32)), .unset, .unset, .unset, .unset] []))
      refine own_go (fun _ hr => XS.iload X9.here hx rfl (hb hby at_63) rfl (XS.bipush X9.here hx rfl (hb hby at_65) (XS.icmpYes X9.here hx rfl (pc0 := 67) (pc' := 137) rfl (hb hby at_67) rfl (feq (by decide)).2 (by decide) (by decide) (XS.iload X9.here hx rfl (hb hby at_137) rfl (XS.iconst X9.here hx rfl (hb hby at_139) hr))))) ?_
      show own_Go p e below _ (T9.setTop (mkF m 140 #[.val (.int x0), .val (.int x1), .val (.int x2), .val (.int (0 : Int32)), .val (.ref r_V1_0), .val (.ref b3), .val (.int (7 : Int32)), .unset, .unset, .unset, .unset] [(.int (3 : Int32)), (.int (7 : Int32))]))
      have nz52 : (3 : Int32) ≠ (0 : Int32) := by decide
      refine own_go (fun _ hr => XS.idiv X9.here hx rfl (hb hby at_140) rfl nz52 hr) ?_
      show own_Go p e below _ (T9.setTop (mkF m 141 #[.val (.int x0), .val (.int x1), .val (.int x2), .val (.int (0 : Int32)), .val (.ref r_V1_0), .val (.ref b3), .val (.int (7 : Int32)), .unset, .unset, .unset, .unset] [(.int (2 : Int32))]))
      refine own_go (fun _ hr => XS.istore X9.here hx rfl (hb hby at_141) rfl (l' := #[.val (.int x0), .val (.int x1), .val (.int x2), .val (.int (0 : Int32)), .val (.ref r_V1_0), .val (.ref b3), .val (.int (7 : Int32)), .unset, .unset, .val (.int (2 : Int32)), .unset]) rfl (XS.iload X9.here hx rfl (hb hby at_143) rfl (XS.iconst X9.here hx rfl (hb hby at_145) hr))) ?_
      show own_Go p e below _ (T9.setTop (mkF m 146 #[.val (.int x0), .val (.int x1), .val (.int x2), .val (.int (0 : Int32)), .val (.ref r_V1_0), .val (.ref b3), .val (.int (7 : Int32)), .unset, .unset, .val (.int (2 : Int32)), .unset] [(.int (3 : Int32)), (.int (7 : Int32))]))
      have nz53 : (3 : Int32) ≠ (0 : Int32) := by decide
      refine own_go (fun _ hr => iremM X9 hx rfl (hb hby at_146) rfl nz53 hr) ?_
      show own_Go p e below _ (T9.setTop (mkF m 147 #[.val (.int x0), .val (.int x1), .val (.int x2), .val (.int (0 : Int32)), .val (.ref r_V1_0), .val (.ref b3), .val (.int (7 : Int32)), .unset, .unset, .val (.int (2 : Int32)), .unset] [(.int (1 : Int32))]))
      refine own_go (fun _ hr => XS.iconst X9.here hx rfl (hb hby at_147) (XS.isub X9.here hx rfl (hb hby at_148) rfl (XS.istore X9.here hx rfl (hb hby at_149) rfl (l' := #[.val (.int x0), .val (.int x1), .val (.int x2), .val (.int (0 : Int32)), .val (.ref r_V1_0), .val (.ref b3), .val (.int (7 : Int32)), .unset, .unset, .val (.int (2 : Int32)), .val (.int (0 : Int32))]) rfl (XS.aload X9.here hx rfl (hb hby at_151) rfl rfl (XS.iload X9.here hx rfl (hb hby at_153) rfl (own_iaload X9 hx hZ e9 f9 (2 : Int32) (.int (133 : Int32)) ⟨by decide, by decide⟩ rfl rfl rfl (hb hby at_155) (XS.iload X9.here hx rfl (hb hby at_156) rfl (XS.iadd X9.here hx rfl (hb hby at_158) rfl (XS.istore X9.here hx rfl (hb hby at_159) rfl (l' := #[.val (.int x0), .val (.int x1), .val (.int x2), .val (.int (0 : Int32)), .val (.ref r_V1_0), .val (.ref b3), .val (.int (7 : Int32)), .val (.int (133 : Int32)), .unset, .val (.int (2 : Int32)), .val (.int (0 : Int32))]) rfl (XS.iload X9.here hx rfl (hb hby at_161) rfl hr)))))))))) ?_
      show own_Go p e below _ (T9.setTop (mkF m 163 #[.val (.int x0), .val (.int x1), .val (.int x2), .val (.int (0 : Int32)), .val (.ref r_V1_0), .val (.ref b3), .val (.int (7 : Int32)), .val (.int (133 : Int32)), .unset, .val (.int (2 : Int32)), .val (.int (0 : Int32))] [(.int (0 : Int32))]))
      refine own_go (fun _ hr => XS.ifYes X9.here hx rfl (pc0 := 163) (pc' := 172) rfl (hb hby at_163) rfl ((if0 _ _).trans (teq (by decide)).1) (by decide) (by decide) (XS.iload X9.here hx rfl (hb hby at_172) rfl (XS.iconst X9.here hx rfl (hb hby at_174) (XS.icmpYes X9.here hx rfl (pc0 := 175) (pc' := 184) rfl (hb hby at_175) rfl (flt (by decide)).2.1 (by decide) (by decide) (XS.iloadN X9.here hx rfl (hb hby at_184) rfl (XS.istore X9.here hx rfl (hb hby at_185) rfl (l' := #[.val (.int x0), .val (.int x1), .val (.int x2), .val (.int (0 : Int32)), .val (.ref r_V1_0), .val (.ref b3), .val (.int (7 : Int32)), .val (.int (133 : Int32)), .val (.int (0 : Int32)), .val (.int (2 : Int32)), .val (.int (0 : Int32))]) rfl (XS.aload X9.here hx rfl (hb hby at_187) rfl rfl (XS.iload X9.here hx rfl (hb hby at_189) rfl hr)))))))) ?_
      show own_Go p e below _ (T9.setTop (mkF m 191 #[.val (.int x0), .val (.int x1), .val (.int x2), .val (.int (0 : Int32)), .val (.ref r_V1_0), .val (.ref b3), .val (.int (7 : Int32)), .val (.int (133 : Int32)), .val (.int (0 : Int32)), .val (.int (2 : Int32)), .val (.int (0 : Int32))] [(.int (133 : Int32)), (.ref r_V1_0)]))
      have f55 := (((((S_V1_1.ext E3).wr W6).wr W7).wr W8).wr W9)
      have Z56 := (Nat.le_trans (Nat.le_trans (Nat.le_trans (Nat.le_trans (Nat.le_trans Z0 E3.1) (Nat.le_of_eq W6.size.symm)) (Nat.le_of_eq W7.size.symm)) (Nat.le_of_eq W8.size.symm)) (Nat.le_of_eq W9.size.symm))
      have f57 := (((((E_V1_0.ext E3).wr W6).wr W7).wr W8).wr W9)
      refine own_cv X9 hx hZ hown (notFace_of_selects (args := #[]) (mvT hZ (hw _ (own_m 8 rfl)))) (hw _ (own_m 5 rfl)) (hw _ (own_m 6 rfl)) (hw _ (own_m 8 rfl)) (hw _ (own_m 7 rfl)) (hw _ (own_m 1 rfl)) (hw _ (own_m 9 rfl)) (by decide) f57 (rm := { frames := 0, cells := 0, slots := 0, locals := 0 }) (rm_a8_endsLine l Z a0 hw [] r_V1_0 r_V1_1 h9 n0 Z56 f55 ne_V1_0_V1_1) (by decide) (W := 0) (by decide) (by decide) (by decide) e9 (by rw [hml]; rfl) (argsL := [(.int (133 : Int32))]) (lenOf own_pd0 rfl) (rest := []) rfl rfl (Nat.le_of_eq rfl) (hb hby at_191) ?_
      intro _ T54 L54 X54 hQ54
      obtain ⟨rfl, N54q, e54⟩ := hQ54
      have N54 := Fr.app N9 N54q
      show own_Go p e below _ (T54.setTop (mkF m 194 #[.val (.int x0), .val (.int x1), .val (.int x2), .val (.int (0 : Int32)), .val (.ref r_V1_0), .val (.ref b3), .val (.int (7 : Int32)), .val (.int (133 : Int32)), .val (.int (0 : Int32)), .val (.int (2 : Int32)), .val (.int (0 : Int32))] [(.int (0 : Int32))]))
      refine own_go (fun _ hr => XS.iload X54.here hx rfl (hb hby at_194) rfl (XS.icmpNo X54.here hx rfl (hb hby at_196) rfl (teq (by decide)).2 (XS.iconst X54.here hx rfl (hb hby at_199) (XS.goto X54.here hx rfl (pc0 := 200) (pc' := 204) rfl (hb hby at_200) (by decide) (by decide) hr)))) ?_
      show own_Go p e below _ (T54.setTop (mkF m 204 #[.val (.int x0), .val (.int x1), .val (.int x2), .val (.int (0 : Int32)), .val (.ref r_V1_0), .val (.ref b3), .val (.int (7 : Int32)), .val (.int (133 : Int32)), .val (.int (0 : Int32)), .val (.int (2 : Int32)), .val (.int (0 : Int32))] [(.int (1 : Int32))]))
      exact own_retN X54 hx hlk Bd.returns (t := .boolean) (by simp) (hb hby at_204) (by decide) (by decide) ⟨rfl, N54⟩
    · rw [hk11]
      show own_Go p e below _ (T9.setTop (mkF m 63 #[.val (.int x0), .val (.int x1), .val (.int x2), .val (.int (0 : Int32)), .val (.ref r_V1_0), .val (.ref b3), .val (.int (8 : Int32)), .unset, .unset, .unset, .unset] []))
      refine own_go (fun _ hr => XS.iload X9.here hx rfl (hb hby at_63) rfl (XS.bipush X9.here hx rfl (hb hby at_65) (XS.icmpYes X9.here hx rfl (pc0 := 67) (pc' := 137) rfl (hb hby at_67) rfl (feq (by decide)).2 (by decide) (by decide) (XS.iload X9.here hx rfl (hb hby at_137) rfl (XS.iconst X9.here hx rfl (hb hby at_139) hr))))) ?_
      show own_Go p e below _ (T9.setTop (mkF m 140 #[.val (.int x0), .val (.int x1), .val (.int x2), .val (.int (0 : Int32)), .val (.ref r_V1_0), .val (.ref b3), .val (.int (8 : Int32)), .unset, .unset, .unset, .unset] [(.int (3 : Int32)), (.int (8 : Int32))]))
      have nz58 : (3 : Int32) ≠ (0 : Int32) := by decide
      refine own_go (fun _ hr => XS.idiv X9.here hx rfl (hb hby at_140) rfl nz58 hr) ?_
      show own_Go p e below _ (T9.setTop (mkF m 141 #[.val (.int x0), .val (.int x1), .val (.int x2), .val (.int (0 : Int32)), .val (.ref r_V1_0), .val (.ref b3), .val (.int (8 : Int32)), .unset, .unset, .unset, .unset] [(.int (2 : Int32))]))
      refine own_go (fun _ hr => XS.istore X9.here hx rfl (hb hby at_141) rfl (l' := #[.val (.int x0), .val (.int x1), .val (.int x2), .val (.int (0 : Int32)), .val (.ref r_V1_0), .val (.ref b3), .val (.int (8 : Int32)), .unset, .unset, .val (.int (2 : Int32)), .unset]) rfl (XS.iload X9.here hx rfl (hb hby at_143) rfl (XS.iconst X9.here hx rfl (hb hby at_145) hr))) ?_
      show own_Go p e below _ (T9.setTop (mkF m 146 #[.val (.int x0), .val (.int x1), .val (.int x2), .val (.int (0 : Int32)), .val (.ref r_V1_0), .val (.ref b3), .val (.int (8 : Int32)), .unset, .unset, .val (.int (2 : Int32)), .unset] [(.int (3 : Int32)), (.int (8 : Int32))]))
      have nz59 : (3 : Int32) ≠ (0 : Int32) := by decide
      refine own_go (fun _ hr => iremM X9 hx rfl (hb hby at_146) rfl nz59 hr) ?_
      show own_Go p e below _ (T9.setTop (mkF m 147 #[.val (.int x0), .val (.int x1), .val (.int x2), .val (.int (0 : Int32)), .val (.ref r_V1_0), .val (.ref b3), .val (.int (8 : Int32)), .unset, .unset, .val (.int (2 : Int32)), .unset] [(.int (2 : Int32))]))
      refine own_go (fun _ hr => XS.iconst X9.here hx rfl (hb hby at_147) (XS.isub X9.here hx rfl (hb hby at_148) rfl (XS.istore X9.here hx rfl (hb hby at_149) rfl (l' := #[.val (.int x0), .val (.int x1), .val (.int x2), .val (.int (0 : Int32)), .val (.ref r_V1_0), .val (.ref b3), .val (.int (8 : Int32)), .unset, .unset, .val (.int (2 : Int32)), .val (.int (1 : Int32))]) rfl (XS.aload X9.here hx rfl (hb hby at_151) rfl rfl (XS.iload X9.here hx rfl (hb hby at_153) rfl (own_iaload X9 hx hZ e9 f9 (2 : Int32) (.int (133 : Int32)) ⟨by decide, by decide⟩ rfl rfl rfl (hb hby at_155) (XS.iload X9.here hx rfl (hb hby at_156) rfl (XS.iadd X9.here hx rfl (hb hby at_158) rfl (XS.istore X9.here hx rfl (hb hby at_159) rfl (l' := #[.val (.int x0), .val (.int x1), .val (.int x2), .val (.int (0 : Int32)), .val (.ref r_V1_0), .val (.ref b3), .val (.int (8 : Int32)), .val (.int (134 : Int32)), .unset, .val (.int (2 : Int32)), .val (.int (1 : Int32))]) rfl (XS.iload X9.here hx rfl (hb hby at_161) rfl hr)))))))))) ?_
      show own_Go p e below _ (T9.setTop (mkF m 163 #[.val (.int x0), .val (.int x1), .val (.int x2), .val (.int (0 : Int32)), .val (.ref r_V1_0), .val (.ref b3), .val (.int (8 : Int32)), .val (.int (134 : Int32)), .unset, .val (.int (2 : Int32)), .val (.int (1 : Int32))] [(.int (1 : Int32))]))
      refine own_go (fun _ hr => XS.ifNo X9.here hx rfl (hb hby at_163) rfl ((if0 _ _).trans (feq (by decide)).1) (XS.iconst X9.here hx rfl (hb hby at_166) (XS.istore X9.here hx rfl (hb hby at_167) rfl (l' := #[.val (.int x0), .val (.int x1), .val (.int x2), .val (.int (0 : Int32)), .val (.ref r_V1_0), .val (.ref b3), .val (.int (8 : Int32)), .val (.int (134 : Int32)), .val (.int (0 : Int32)), .val (.int (2 : Int32)), .val (.int (1 : Int32))]) rfl (XS.goto X9.here hx rfl (pc0 := 169) (pc' := 187) rfl (hb hby at_169) (by decide) (by decide) (XS.aload X9.here hx rfl (hb hby at_187) rfl rfl (XS.iload X9.here hx rfl (hb hby at_189) rfl hr)))))) ?_
      show own_Go p e below _ (T9.setTop (mkF m 191 #[.val (.int x0), .val (.int x1), .val (.int x2), .val (.int (0 : Int32)), .val (.ref r_V1_0), .val (.ref b3), .val (.int (8 : Int32)), .val (.int (134 : Int32)), .val (.int (0 : Int32)), .val (.int (2 : Int32)), .val (.int (1 : Int32))] [(.int (134 : Int32)), (.ref r_V1_0)]))
      have f61 := (((((S_V1_1.ext E3).wr W6).wr W7).wr W8).wr W9)
      have Z62 := (Nat.le_trans (Nat.le_trans (Nat.le_trans (Nat.le_trans (Nat.le_trans Z0 E3.1) (Nat.le_of_eq W6.size.symm)) (Nat.le_of_eq W7.size.symm)) (Nat.le_of_eq W8.size.symm)) (Nat.le_of_eq W9.size.symm))
      have f63 := (((((E_V1_0.ext E3).wr W6).wr W7).wr W8).wr W9)
      refine own_cv X9 hx hZ hown (notFace_of_selects (args := #[]) (mvT hZ (hw _ (own_m 8 rfl)))) (hw _ (own_m 5 rfl)) (hw _ (own_m 6 rfl)) (hw _ (own_m 8 rfl)) (hw _ (own_m 7 rfl)) (hw _ (own_m 1 rfl)) (hw _ (own_m 9 rfl)) (by decide) f63 (rm := { frames := 0, cells := 0, slots := 0, locals := 0 }) (rm_a9_endsLine l Z a0 hw [] r_V1_0 r_V1_1 h9 n0 Z62 f61 ne_V1_0_V1_1) (by decide) (W := 0) (by decide) (by decide) (by decide) e9 (by rw [hml]; rfl) (argsL := [(.int (134 : Int32))]) (lenOf own_pd0 rfl) (rest := []) rfl rfl (Nat.le_of_eq rfl) (hb hby at_191) ?_
      intro _ T60 L60 X60 hQ60
      obtain ⟨rfl, N60q, e60⟩ := hQ60
      have N60 := Fr.app N9 N60q
      show own_Go p e below _ (T60.setTop (mkF m 194 #[.val (.int x0), .val (.int x1), .val (.int x2), .val (.int (0 : Int32)), .val (.ref r_V1_0), .val (.ref b3), .val (.int (8 : Int32)), .val (.int (134 : Int32)), .val (.int (0 : Int32)), .val (.int (2 : Int32)), .val (.int (1 : Int32))] [(.int (0 : Int32))]))
      refine own_go (fun _ hr => XS.iload X60.here hx rfl (hb hby at_194) rfl (XS.icmpNo X60.here hx rfl (hb hby at_196) rfl (teq (by decide)).2 (XS.iconst X60.here hx rfl (hb hby at_199) (XS.goto X60.here hx rfl (pc0 := 200) (pc' := 204) rfl (hb hby at_200) (by decide) (by decide) hr)))) ?_
      show own_Go p e below _ (T60.setTop (mkF m 204 #[.val (.int x0), .val (.int x1), .val (.int x2), .val (.int (0 : Int32)), .val (.ref r_V1_0), .val (.ref b3), .val (.int (8 : Int32)), .val (.int (134 : Int32)), .val (.int (0 : Int32)), .val (.int (2 : Int32)), .val (.int (1 : Int32))] [(.int (1 : Int32))]))
      exact own_retN X60 hx hlk Bd.returns (t := .boolean) (by simp) (hb hby at_204) (by decide) (by decide) ⟨rfl, N60⟩
    · rw [hk11]
      show own_Go p e below _ (T9.setTop (mkF m 63 #[.val (.int x0), .val (.int x1), .val (.int x2), .val (.int (0 : Int32)), .val (.ref r_V1_0), .val (.ref b3), .val (.int (9 : Int32)), .unset, .unset, .unset, .unset] []))
      refine own_go (fun _ hr => XS.iload X9.here hx rfl (hb hby at_63) rfl (XS.bipush X9.here hx rfl (hb hby at_65) (XS.icmpYes X9.here hx rfl (pc0 := 67) (pc' := 137) rfl (hb hby at_67) rfl (feq (by decide)).2 (by decide) (by decide) (XS.iload X9.here hx rfl (hb hby at_137) rfl (XS.iconst X9.here hx rfl (hb hby at_139) hr))))) ?_
      show own_Go p e below _ (T9.setTop (mkF m 140 #[.val (.int x0), .val (.int x1), .val (.int x2), .val (.int (0 : Int32)), .val (.ref r_V1_0), .val (.ref b3), .val (.int (9 : Int32)), .unset, .unset, .unset, .unset] [(.int (3 : Int32)), (.int (9 : Int32))]))
      have nz64 : (3 : Int32) ≠ (0 : Int32) := by decide
      refine own_go (fun _ hr => XS.idiv X9.here hx rfl (hb hby at_140) rfl nz64 hr) ?_
      show own_Go p e below _ (T9.setTop (mkF m 141 #[.val (.int x0), .val (.int x1), .val (.int x2), .val (.int (0 : Int32)), .val (.ref r_V1_0), .val (.ref b3), .val (.int (9 : Int32)), .unset, .unset, .unset, .unset] [(.int (3 : Int32))]))
      refine own_go (fun _ hr => XS.istore X9.here hx rfl (hb hby at_141) rfl (l' := #[.val (.int x0), .val (.int x1), .val (.int x2), .val (.int (0 : Int32)), .val (.ref r_V1_0), .val (.ref b3), .val (.int (9 : Int32)), .unset, .unset, .val (.int (3 : Int32)), .unset]) rfl (XS.iload X9.here hx rfl (hb hby at_143) rfl (XS.iconst X9.here hx rfl (hb hby at_145) hr))) ?_
      show own_Go p e below _ (T9.setTop (mkF m 146 #[.val (.int x0), .val (.int x1), .val (.int x2), .val (.int (0 : Int32)), .val (.ref r_V1_0), .val (.ref b3), .val (.int (9 : Int32)), .unset, .unset, .val (.int (3 : Int32)), .unset] [(.int (3 : Int32)), (.int (9 : Int32))]))
      have nz65 : (3 : Int32) ≠ (0 : Int32) := by decide
      refine own_go (fun _ hr => iremM X9 hx rfl (hb hby at_146) rfl nz65 hr) ?_
      show own_Go p e below _ (T9.setTop (mkF m 147 #[.val (.int x0), .val (.int x1), .val (.int x2), .val (.int (0 : Int32)), .val (.ref r_V1_0), .val (.ref b3), .val (.int (9 : Int32)), .unset, .unset, .val (.int (3 : Int32)), .unset] [(.int (0 : Int32))]))
      refine own_go (fun _ hr => XS.iconst X9.here hx rfl (hb hby at_147) (XS.isub X9.here hx rfl (hb hby at_148) rfl (XS.istore X9.here hx rfl (hb hby at_149) rfl (l' := #[.val (.int x0), .val (.int x1), .val (.int x2), .val (.int (0 : Int32)), .val (.ref r_V1_0), .val (.ref b3), .val (.int (9 : Int32)), .unset, .unset, .val (.int (3 : Int32)), .val (.int (-1 : Int32))]) rfl (XS.aload X9.here hx rfl (hb hby at_151) rfl rfl (XS.iload X9.here hx rfl (hb hby at_153) rfl (own_iaload X9 hx hZ e9 f9 (3 : Int32) (.int (8232 : Int32)) ⟨by decide, by decide⟩ rfl rfl rfl (hb hby at_155) (XS.iload X9.here hx rfl (hb hby at_156) rfl (XS.iadd X9.here hx rfl (hb hby at_158) rfl (XS.istore X9.here hx rfl (hb hby at_159) rfl (l' := #[.val (.int x0), .val (.int x1), .val (.int x2), .val (.int (0 : Int32)), .val (.ref r_V1_0), .val (.ref b3), .val (.int (9 : Int32)), .val (.int (8231 : Int32)), .unset, .val (.int (3 : Int32)), .val (.int (-1 : Int32))]) rfl (XS.iload X9.here hx rfl (hb hby at_161) rfl hr)))))))))) ?_
      show own_Go p e below _ (T9.setTop (mkF m 163 #[.val (.int x0), .val (.int x1), .val (.int x2), .val (.int (0 : Int32)), .val (.ref r_V1_0), .val (.ref b3), .val (.int (9 : Int32)), .val (.int (8231 : Int32)), .unset, .val (.int (3 : Int32)), .val (.int (-1 : Int32))] [(.int (-1 : Int32))]))
      refine own_go (fun _ hr => XS.ifNo X9.here hx rfl (hb hby at_163) rfl ((if0 _ _).trans (feq (by decide)).1) (XS.iconst X9.here hx rfl (hb hby at_166) (XS.istore X9.here hx rfl (hb hby at_167) rfl (l' := #[.val (.int x0), .val (.int x1), .val (.int x2), .val (.int (0 : Int32)), .val (.ref r_V1_0), .val (.ref b3), .val (.int (9 : Int32)), .val (.int (8231 : Int32)), .val (.int (0 : Int32)), .val (.int (3 : Int32)), .val (.int (-1 : Int32))]) rfl (XS.goto X9.here hx rfl (pc0 := 169) (pc' := 187) rfl (hb hby at_169) (by decide) (by decide) (XS.aload X9.here hx rfl (hb hby at_187) rfl rfl (XS.iload X9.here hx rfl (hb hby at_189) rfl hr)))))) ?_
      show own_Go p e below _ (T9.setTop (mkF m 191 #[.val (.int x0), .val (.int x1), .val (.int x2), .val (.int (0 : Int32)), .val (.ref r_V1_0), .val (.ref b3), .val (.int (9 : Int32)), .val (.int (8231 : Int32)), .val (.int (0 : Int32)), .val (.int (3 : Int32)), .val (.int (-1 : Int32))] [(.int (8231 : Int32)), (.ref r_V1_0)]))
      have f67 := (((((S_V1_1.ext E3).wr W6).wr W7).wr W8).wr W9)
      have Z68 := (Nat.le_trans (Nat.le_trans (Nat.le_trans (Nat.le_trans (Nat.le_trans Z0 E3.1) (Nat.le_of_eq W6.size.symm)) (Nat.le_of_eq W7.size.symm)) (Nat.le_of_eq W8.size.symm)) (Nat.le_of_eq W9.size.symm))
      have f69 := (((((E_V1_0.ext E3).wr W6).wr W7).wr W8).wr W9)
      refine own_cv X9 hx hZ hown (notFace_of_selects (args := #[]) (mvT hZ (hw _ (own_m 8 rfl)))) (hw _ (own_m 5 rfl)) (hw _ (own_m 6 rfl)) (hw _ (own_m 8 rfl)) (hw _ (own_m 7 rfl)) (hw _ (own_m 1 rfl)) (hw _ (own_m 9 rfl)) (by decide) f69 (rm := { frames := 0, cells := 0, slots := 0, locals := 0 }) (rm_a10_endsLine l Z a0 hw [] r_V1_0 r_V1_1 h9 n0 Z68 f67 ne_V1_0_V1_1) (by decide) (W := 0) (by decide) (by decide) (by decide) e9 (by rw [hml]; rfl) (argsL := [(.int (8231 : Int32))]) (lenOf own_pd0 rfl) (rest := []) rfl rfl (Nat.le_of_eq rfl) (hb hby at_191) ?_
      intro _ T66 L66 X66 hQ66
      obtain ⟨rfl, N66q, e66⟩ := hQ66
      have N66 := Fr.app N9 N66q
      show own_Go p e below _ (T66.setTop (mkF m 194 #[.val (.int x0), .val (.int x1), .val (.int x2), .val (.int (0 : Int32)), .val (.ref r_V1_0), .val (.ref b3), .val (.int (9 : Int32)), .val (.int (8231 : Int32)), .val (.int (0 : Int32)), .val (.int (3 : Int32)), .val (.int (-1 : Int32))] [(.int (0 : Int32))]))
      refine own_go (fun _ hr => XS.iload X66.here hx rfl (hb hby at_194) rfl (XS.icmpNo X66.here hx rfl (hb hby at_196) rfl (teq (by decide)).2 (XS.iconst X66.here hx rfl (hb hby at_199) (XS.goto X66.here hx rfl (pc0 := 200) (pc' := 204) rfl (hb hby at_200) (by decide) (by decide) hr)))) ?_
      show own_Go p e below _ (T66.setTop (mkF m 204 #[.val (.int x0), .val (.int x1), .val (.int x2), .val (.int (0 : Int32)), .val (.ref r_V1_0), .val (.ref b3), .val (.int (9 : Int32)), .val (.int (8231 : Int32)), .val (.int (0 : Int32)), .val (.int (3 : Int32)), .val (.int (-1 : Int32))] [(.int (1 : Int32))]))
      exact own_retN X66 hx hlk Bd.returns (t := .boolean) (by simp) (hb hby at_204) (by decide) (by decide) ⟨rfl, N66⟩
    · rw [hk11]
      show own_Go p e below _ (T9.setTop (mkF m 63 #[.val (.int x0), .val (.int x1), .val (.int x2), .val (.int (0 : Int32)), .val (.ref r_V1_0), .val (.ref b3), .val (.int (10 : Int32)), .unset, .unset, .unset, .unset] []))
      refine own_go (fun _ hr => XS.iload X9.here hx rfl (hb hby at_63) rfl (XS.bipush X9.here hx rfl (hb hby at_65) (XS.icmpYes X9.here hx rfl (pc0 := 67) (pc' := 137) rfl (hb hby at_67) rfl (feq (by decide)).2 (by decide) (by decide) (XS.iload X9.here hx rfl (hb hby at_137) rfl (XS.iconst X9.here hx rfl (hb hby at_139) hr))))) ?_
      show own_Go p e below _ (T9.setTop (mkF m 140 #[.val (.int x0), .val (.int x1), .val (.int x2), .val (.int (0 : Int32)), .val (.ref r_V1_0), .val (.ref b3), .val (.int (10 : Int32)), .unset, .unset, .unset, .unset] [(.int (3 : Int32)), (.int (10 : Int32))]))
      have nz70 : (3 : Int32) ≠ (0 : Int32) := by decide
      refine own_go (fun _ hr => XS.idiv X9.here hx rfl (hb hby at_140) rfl nz70 hr) ?_
      show own_Go p e below _ (T9.setTop (mkF m 141 #[.val (.int x0), .val (.int x1), .val (.int x2), .val (.int (0 : Int32)), .val (.ref r_V1_0), .val (.ref b3), .val (.int (10 : Int32)), .unset, .unset, .unset, .unset] [(.int (3 : Int32))]))
      refine own_go (fun _ hr => XS.istore X9.here hx rfl (hb hby at_141) rfl (l' := #[.val (.int x0), .val (.int x1), .val (.int x2), .val (.int (0 : Int32)), .val (.ref r_V1_0), .val (.ref b3), .val (.int (10 : Int32)), .unset, .unset, .val (.int (3 : Int32)), .unset]) rfl (XS.iload X9.here hx rfl (hb hby at_143) rfl (XS.iconst X9.here hx rfl (hb hby at_145) hr))) ?_
      show own_Go p e below _ (T9.setTop (mkF m 146 #[.val (.int x0), .val (.int x1), .val (.int x2), .val (.int (0 : Int32)), .val (.ref r_V1_0), .val (.ref b3), .val (.int (10 : Int32)), .unset, .unset, .val (.int (3 : Int32)), .unset] [(.int (3 : Int32)), (.int (10 : Int32))]))
      have nz71 : (3 : Int32) ≠ (0 : Int32) := by decide
      refine own_go (fun _ hr => iremM X9 hx rfl (hb hby at_146) rfl nz71 hr) ?_
      show own_Go p e below _ (T9.setTop (mkF m 147 #[.val (.int x0), .val (.int x1), .val (.int x2), .val (.int (0 : Int32)), .val (.ref r_V1_0), .val (.ref b3), .val (.int (10 : Int32)), .unset, .unset, .val (.int (3 : Int32)), .unset] [(.int (1 : Int32))]))
      refine own_go (fun _ hr => XS.iconst X9.here hx rfl (hb hby at_147) (XS.isub X9.here hx rfl (hb hby at_148) rfl (XS.istore X9.here hx rfl (hb hby at_149) rfl (l' := #[.val (.int x0), .val (.int x1), .val (.int x2), .val (.int (0 : Int32)), .val (.ref r_V1_0), .val (.ref b3), .val (.int (10 : Int32)), .unset, .unset, .val (.int (3 : Int32)), .val (.int (0 : Int32))]) rfl (XS.aload X9.here hx rfl (hb hby at_151) rfl rfl (XS.iload X9.here hx rfl (hb hby at_153) rfl (own_iaload X9 hx hZ e9 f9 (3 : Int32) (.int (8232 : Int32)) ⟨by decide, by decide⟩ rfl rfl rfl (hb hby at_155) (XS.iload X9.here hx rfl (hb hby at_156) rfl (XS.iadd X9.here hx rfl (hb hby at_158) rfl (XS.istore X9.here hx rfl (hb hby at_159) rfl (l' := #[.val (.int x0), .val (.int x1), .val (.int x2), .val (.int (0 : Int32)), .val (.ref r_V1_0), .val (.ref b3), .val (.int (10 : Int32)), .val (.int (8232 : Int32)), .unset, .val (.int (3 : Int32)), .val (.int (0 : Int32))]) rfl (XS.iload X9.here hx rfl (hb hby at_161) rfl hr)))))))))) ?_
      show own_Go p e below _ (T9.setTop (mkF m 163 #[.val (.int x0), .val (.int x1), .val (.int x2), .val (.int (0 : Int32)), .val (.ref r_V1_0), .val (.ref b3), .val (.int (10 : Int32)), .val (.int (8232 : Int32)), .unset, .val (.int (3 : Int32)), .val (.int (0 : Int32))] [(.int (0 : Int32))]))
      refine own_go (fun _ hr => XS.ifYes X9.here hx rfl (pc0 := 163) (pc' := 172) rfl (hb hby at_163) rfl ((if0 _ _).trans (teq (by decide)).1) (by decide) (by decide) (XS.iload X9.here hx rfl (hb hby at_172) rfl (XS.iconst X9.here hx rfl (hb hby at_174) (XS.icmpYes X9.here hx rfl (pc0 := 175) (pc' := 184) rfl (hb hby at_175) rfl (flt (by decide)).2.1 (by decide) (by decide) (XS.iloadN X9.here hx rfl (hb hby at_184) rfl (XS.istore X9.here hx rfl (hb hby at_185) rfl (l' := #[.val (.int x0), .val (.int x1), .val (.int x2), .val (.int (0 : Int32)), .val (.ref r_V1_0), .val (.ref b3), .val (.int (10 : Int32)), .val (.int (8232 : Int32)), .val (.int (0 : Int32)), .val (.int (3 : Int32)), .val (.int (0 : Int32))]) rfl (XS.aload X9.here hx rfl (hb hby at_187) rfl rfl (XS.iload X9.here hx rfl (hb hby at_189) rfl hr)))))))) ?_
      show own_Go p e below _ (T9.setTop (mkF m 191 #[.val (.int x0), .val (.int x1), .val (.int x2), .val (.int (0 : Int32)), .val (.ref r_V1_0), .val (.ref b3), .val (.int (10 : Int32)), .val (.int (8232 : Int32)), .val (.int (0 : Int32)), .val (.int (3 : Int32)), .val (.int (0 : Int32))] [(.int (8232 : Int32)), (.ref r_V1_0)]))
      have f73 := (((((S_V1_1.ext E3).wr W6).wr W7).wr W8).wr W9)
      have Z74 := (Nat.le_trans (Nat.le_trans (Nat.le_trans (Nat.le_trans (Nat.le_trans Z0 E3.1) (Nat.le_of_eq W6.size.symm)) (Nat.le_of_eq W7.size.symm)) (Nat.le_of_eq W8.size.symm)) (Nat.le_of_eq W9.size.symm))
      have f75 := (((((E_V1_0.ext E3).wr W6).wr W7).wr W8).wr W9)
      refine own_cv X9 hx hZ hown (notFace_of_selects (args := #[]) (mvT hZ (hw _ (own_m 8 rfl)))) (hw _ (own_m 5 rfl)) (hw _ (own_m 6 rfl)) (hw _ (own_m 8 rfl)) (hw _ (own_m 7 rfl)) (hw _ (own_m 1 rfl)) (hw _ (own_m 9 rfl)) (by decide) f75 (rm := { frames := 0, cells := 0, slots := 0, locals := 0 }) (rm_a11_endsLine l Z a0 hw [] r_V1_0 r_V1_1 h9 n0 Z74 f73 ne_V1_0_V1_1) (by decide) (W := 0) (by decide) (by decide) (by decide) e9 (by rw [hml]; rfl) (argsL := [(.int (8232 : Int32))]) (lenOf own_pd0 rfl) (rest := []) rfl rfl (Nat.le_of_eq rfl) (hb hby at_191) ?_
      intro _ T72 L72 X72 hQ72
      obtain ⟨rfl, N72q, e72⟩ := hQ72
      have N72 := Fr.app N9 N72q
      show own_Go p e below _ (T72.setTop (mkF m 194 #[.val (.int x0), .val (.int x1), .val (.int x2), .val (.int (0 : Int32)), .val (.ref r_V1_0), .val (.ref b3), .val (.int (10 : Int32)), .val (.int (8232 : Int32)), .val (.int (0 : Int32)), .val (.int (3 : Int32)), .val (.int (0 : Int32))] [(.int (0 : Int32))]))
      refine own_go (fun _ hr => XS.iload X72.here hx rfl (hb hby at_194) rfl (XS.icmpNo X72.here hx rfl (hb hby at_196) rfl (teq (by decide)).2 (XS.iconst X72.here hx rfl (hb hby at_199) (XS.goto X72.here hx rfl (pc0 := 200) (pc' := 204) rfl (hb hby at_200) (by decide) (by decide) hr)))) ?_
      show own_Go p e below _ (T72.setTop (mkF m 204 #[.val (.int x0), .val (.int x1), .val (.int x2), .val (.int (0 : Int32)), .val (.ref r_V1_0), .val (.ref b3), .val (.int (10 : Int32)), .val (.int (8232 : Int32)), .val (.int (0 : Int32)), .val (.int (3 : Int32)), .val (.int (0 : Int32))] [(.int (1 : Int32))]))
      exact own_retN X72 hx hlk Bd.returns (t := .boolean) (by simp) (hb hby at_204) (by decide) (by decide) ⟨rfl, N72⟩
    · rw [hk11]
      show own_Go p e below _ (T9.setTop (mkF m 63 #[.val (.int x0), .val (.int x1), .val (.int x2), .val (.int (0 : Int32)), .val (.ref r_V1_0), .val (.ref b3), .val (.int (11 : Int32)), .unset, .unset, .unset, .unset] []))
      refine own_go (fun _ hr => XS.iload X9.here hx rfl (hb hby at_63) rfl (XS.bipush X9.here hx rfl (hb hby at_65) (XS.icmpYes X9.here hx rfl (pc0 := 67) (pc' := 137) rfl (hb hby at_67) rfl (feq (by decide)).2 (by decide) (by decide) (XS.iload X9.here hx rfl (hb hby at_137) rfl (XS.iconst X9.here hx rfl (hb hby at_139) hr))))) ?_
      show own_Go p e below _ (T9.setTop (mkF m 140 #[.val (.int x0), .val (.int x1), .val (.int x2), .val (.int (0 : Int32)), .val (.ref r_V1_0), .val (.ref b3), .val (.int (11 : Int32)), .unset, .unset, .unset, .unset] [(.int (3 : Int32)), (.int (11 : Int32))]))
      have nz76 : (3 : Int32) ≠ (0 : Int32) := by decide
      refine own_go (fun _ hr => XS.idiv X9.here hx rfl (hb hby at_140) rfl nz76 hr) ?_
      show own_Go p e below _ (T9.setTop (mkF m 141 #[.val (.int x0), .val (.int x1), .val (.int x2), .val (.int (0 : Int32)), .val (.ref r_V1_0), .val (.ref b3), .val (.int (11 : Int32)), .unset, .unset, .unset, .unset] [(.int (3 : Int32))]))
      refine own_go (fun _ hr => XS.istore X9.here hx rfl (hb hby at_141) rfl (l' := #[.val (.int x0), .val (.int x1), .val (.int x2), .val (.int (0 : Int32)), .val (.ref r_V1_0), .val (.ref b3), .val (.int (11 : Int32)), .unset, .unset, .val (.int (3 : Int32)), .unset]) rfl (XS.iload X9.here hx rfl (hb hby at_143) rfl (XS.iconst X9.here hx rfl (hb hby at_145) hr))) ?_
      show own_Go p e below _ (T9.setTop (mkF m 146 #[.val (.int x0), .val (.int x1), .val (.int x2), .val (.int (0 : Int32)), .val (.ref r_V1_0), .val (.ref b3), .val (.int (11 : Int32)), .unset, .unset, .val (.int (3 : Int32)), .unset] [(.int (3 : Int32)), (.int (11 : Int32))]))
      have nz77 : (3 : Int32) ≠ (0 : Int32) := by decide
      refine own_go (fun _ hr => iremM X9 hx rfl (hb hby at_146) rfl nz77 hr) ?_
      show own_Go p e below _ (T9.setTop (mkF m 147 #[.val (.int x0), .val (.int x1), .val (.int x2), .val (.int (0 : Int32)), .val (.ref r_V1_0), .val (.ref b3), .val (.int (11 : Int32)), .unset, .unset, .val (.int (3 : Int32)), .unset] [(.int (2 : Int32))]))
      refine own_go (fun _ hr => XS.iconst X9.here hx rfl (hb hby at_147) (XS.isub X9.here hx rfl (hb hby at_148) rfl (XS.istore X9.here hx rfl (hb hby at_149) rfl (l' := #[.val (.int x0), .val (.int x1), .val (.int x2), .val (.int (0 : Int32)), .val (.ref r_V1_0), .val (.ref b3), .val (.int (11 : Int32)), .unset, .unset, .val (.int (3 : Int32)), .val (.int (1 : Int32))]) rfl (XS.aload X9.here hx rfl (hb hby at_151) rfl rfl (XS.iload X9.here hx rfl (hb hby at_153) rfl (own_iaload X9 hx hZ e9 f9 (3 : Int32) (.int (8232 : Int32)) ⟨by decide, by decide⟩ rfl rfl rfl (hb hby at_155) (XS.iload X9.here hx rfl (hb hby at_156) rfl (XS.iadd X9.here hx rfl (hb hby at_158) rfl (XS.istore X9.here hx rfl (hb hby at_159) rfl (l' := #[.val (.int x0), .val (.int x1), .val (.int x2), .val (.int (0 : Int32)), .val (.ref r_V1_0), .val (.ref b3), .val (.int (11 : Int32)), .val (.int (8233 : Int32)), .unset, .val (.int (3 : Int32)), .val (.int (1 : Int32))]) rfl (XS.iload X9.here hx rfl (hb hby at_161) rfl hr)))))))))) ?_
      show own_Go p e below _ (T9.setTop (mkF m 163 #[.val (.int x0), .val (.int x1), .val (.int x2), .val (.int (0 : Int32)), .val (.ref r_V1_0), .val (.ref b3), .val (.int (11 : Int32)), .val (.int (8233 : Int32)), .unset, .val (.int (3 : Int32)), .val (.int (1 : Int32))] [(.int (1 : Int32))]))
      refine own_go (fun _ hr => XS.ifNo X9.here hx rfl (hb hby at_163) rfl ((if0 _ _).trans (feq (by decide)).1) (XS.iconst X9.here hx rfl (hb hby at_166) (XS.istore X9.here hx rfl (hb hby at_167) rfl (l' := #[.val (.int x0), .val (.int x1), .val (.int x2), .val (.int (0 : Int32)), .val (.ref r_V1_0), .val (.ref b3), .val (.int (11 : Int32)), .val (.int (8233 : Int32)), .val (.int (0 : Int32)), .val (.int (3 : Int32)), .val (.int (1 : Int32))]) rfl (XS.goto X9.here hx rfl (pc0 := 169) (pc' := 187) rfl (hb hby at_169) (by decide) (by decide) (XS.aload X9.here hx rfl (hb hby at_187) rfl rfl (XS.iload X9.here hx rfl (hb hby at_189) rfl hr)))))) ?_
      show own_Go p e below _ (T9.setTop (mkF m 191 #[.val (.int x0), .val (.int x1), .val (.int x2), .val (.int (0 : Int32)), .val (.ref r_V1_0), .val (.ref b3), .val (.int (11 : Int32)), .val (.int (8233 : Int32)), .val (.int (0 : Int32)), .val (.int (3 : Int32)), .val (.int (1 : Int32))] [(.int (8233 : Int32)), (.ref r_V1_0)]))
      have f79 := (((((S_V1_1.ext E3).wr W6).wr W7).wr W8).wr W9)
      have Z80 := (Nat.le_trans (Nat.le_trans (Nat.le_trans (Nat.le_trans (Nat.le_trans Z0 E3.1) (Nat.le_of_eq W6.size.symm)) (Nat.le_of_eq W7.size.symm)) (Nat.le_of_eq W8.size.symm)) (Nat.le_of_eq W9.size.symm))
      have f81 := (((((E_V1_0.ext E3).wr W6).wr W7).wr W8).wr W9)
      refine own_cv X9 hx hZ hown (notFace_of_selects (args := #[]) (mvT hZ (hw _ (own_m 8 rfl)))) (hw _ (own_m 5 rfl)) (hw _ (own_m 6 rfl)) (hw _ (own_m 8 rfl)) (hw _ (own_m 7 rfl)) (hw _ (own_m 1 rfl)) (hw _ (own_m 9 rfl)) (by decide) f81 (rm := { frames := 0, cells := 0, slots := 0, locals := 0 }) (rm_a12_endsLine l Z a0 hw [] r_V1_0 r_V1_1 h9 n0 Z80 f79 ne_V1_0_V1_1) (by decide) (W := 0) (by decide) (by decide) (by decide) e9 (by rw [hml]; rfl) (argsL := [(.int (8233 : Int32))]) (lenOf own_pd0 rfl) (rest := []) rfl rfl (Nat.le_of_eq rfl) (hb hby at_191) ?_
      intro _ T78 L78 X78 hQ78
      obtain ⟨rfl, N78q, e78⟩ := hQ78
      have N78 := Fr.app N9 N78q
      show own_Go p e below _ (T78.setTop (mkF m 194 #[.val (.int x0), .val (.int x1), .val (.int x2), .val (.int (0 : Int32)), .val (.ref r_V1_0), .val (.ref b3), .val (.int (11 : Int32)), .val (.int (8233 : Int32)), .val (.int (0 : Int32)), .val (.int (3 : Int32)), .val (.int (1 : Int32))] [(.int (0 : Int32))]))
      refine own_go (fun _ hr => XS.iload X78.here hx rfl (hb hby at_194) rfl (XS.icmpNo X78.here hx rfl (hb hby at_196) rfl (teq (by decide)).2 (XS.iconst X78.here hx rfl (hb hby at_199) (XS.goto X78.here hx rfl (pc0 := 200) (pc' := 204) rfl (hb hby at_200) (by decide) (by decide) hr)))) ?_
      show own_Go p e below _ (T78.setTop (mkF m 204 #[.val (.int x0), .val (.int x1), .val (.int x2), .val (.int (0 : Int32)), .val (.ref r_V1_0), .val (.ref b3), .val (.int (11 : Int32)), .val (.int (8233 : Int32)), .val (.int (0 : Int32)), .val (.int (3 : Int32)), .val (.int (1 : Int32))] [(.int (1 : Int32))]))
      exact own_retN X78 hx hlk Bd.returns (t := .boolean) (by simp) (hb hby at_204) (by decide) (by decide) ⟨rfl, N78⟩
    · rw [hk11]
      show own_Go p e below _ (T9.setTop (mkF m 63 #[.val (.int x0), .val (.int x1), .val (.int x2), .val (.int (0 : Int32)), .val (.ref r_V1_0), .val (.ref b3), .val (.int (12 : Int32)), .unset, .unset, .unset, .unset] []))
      refine own_go (fun _ hr => XS.iload X9.here hx rfl (hb hby at_63) rfl (XS.bipush X9.here hx rfl (hb hby at_65) (XS.icmpNo X9.here hx rfl (hb hby at_67) rfl (teq (by decide)).2 (XS.iloadN X9.here hx rfl (hb hby at_70) rfl (XS.istore X9.here hx rfl (hb hby at_71) rfl (l' := #[.val (.int x0), .val (.int x1), .val (.int x2), .val (.int (0 : Int32)), .val (.ref r_V1_0), .val (.ref b3), .val (.int (12 : Int32)), .val (.int x2), .unset, .unset, .unset]) rfl (XS.iloadN X9.here hx rfl (hb hby at_73) rfl (XS.bipush X9.here hx rfl (hb hby at_74) hr))))))) ?_
      show own_Go p e below _ (T9.setTop (mkF m 76 #[.val (.int x0), .val (.int x1), .val (.int x2), .val (.int (0 : Int32)), .val (.ref r_V1_0), .val (.ref b3), .val (.int (12 : Int32)), .val (.int x2), .unset, .unset, .unset] [(.int (10 : Int32)), (.int x2)]))
      by_cases c82 : x2 = (10 : Int32)
      · refine own_go (fun _ hr => XS.icmpYes X9.here hx rfl (pc0 := 76) (pc' := 85) rfl (hb hby at_76) rfl (teq c82).1 (by decide) (by decide) hr) ?_
        show own_Go p e below _ (T9.setTop (mkF m 85 #[.val (.int x0), .val (.int x1), .val (.int x2), .val (.int (0 : Int32)), .val (.ref r_V1_0), .val (.ref b3), .val (.int (12 : Int32)), .val (.int x2), .unset, .unset, .unset] []))
        refine own_go (fun _ hr => XS.iconst X9.here hx rfl (hb hby at_85) (XS.goto X9.here hx rfl (pc0 := 86) (pc' := 90) rfl (hb hby at_86) (by decide) (by decide) (XS.istore X9.here hx rfl (hb hby at_90) rfl (l' := #[.val (.int x0), .val (.int x1), .val (.int x2), .val (.int (0 : Int32)), .val (.ref r_V1_0), .val (.ref b3), .val (.int (12 : Int32)), .val (.int x2), .unset, .val (.int (1 : Int32)), .unset]) rfl (XS.iloadN X9.here hx rfl (hb hby at_92) rfl (XS.sipush X9.here hx rfl (hb hby at_93) hr))))) ?_
        show own_Go p e below _ (T9.setTop (mkF m 96 #[.val (.int x0), .val (.int x1), .val (.int x2), .val (.int (0 : Int32)), .val (.ref r_V1_0), .val (.ref b3), .val (.int (12 : Int32)), .val (.int x2), .unset, .val (.int (1 : Int32)), .unset] [(.int (133 : Int32)), (.int x2)]))
        have c83 : ¬ (x2 = (133 : Int32)) := by rw [c82]; decide
        refine own_go (fun _ hr => XS.icmpNo X9.here hx rfl (hb hby at_96) rfl (feq c83).1 hr) ?_
        show own_Go p e below _ (T9.setTop (mkF m 99 #[.val (.int x0), .val (.int x1), .val (.int x2), .val (.int (0 : Int32)), .val (.ref r_V1_0), .val (.ref b3), .val (.int (12 : Int32)), .val (.int x2), .unset, .val (.int (1 : Int32)), .unset] []))
        refine own_go (fun _ hr => XS.iloadN X9.here hx rfl (hb hby at_99) rfl (XS.sipush X9.here hx rfl (hb hby at_100) hr)) ?_
        show own_Go p e below _ (T9.setTop (mkF m 103 #[.val (.int x0), .val (.int x1), .val (.int x2), .val (.int (0 : Int32)), .val (.ref r_V1_0), .val (.ref b3), .val (.int (12 : Int32)), .val (.int x2), .unset, .val (.int (1 : Int32)), .unset] [(.int (8232 : Int32)), (.int x2)]))
        have c84 : ¬ (x2 = (8232 : Int32)) := by rw [c82]; decide
        refine own_go (fun _ hr => XS.icmpYes X9.here hx rfl (pc0 := 103) (pc' := 110) rfl (hb hby at_103) rfl (feq c84).2 (by decide) (by decide) hr) ?_
        show own_Go p e below _ (T9.setTop (mkF m 110 #[.val (.int x0), .val (.int x1), .val (.int x2), .val (.int (0 : Int32)), .val (.ref r_V1_0), .val (.ref b3), .val (.int (12 : Int32)), .val (.int x2), .unset, .val (.int (1 : Int32)), .unset] []))
        refine own_go (fun _ hr => XS.iconst X9.here hx rfl (hb hby at_110) (XS.istore X9.here hx rfl (hb hby at_111) rfl (l' := #[.val (.int x0), .val (.int x1), .val (.int x2), .val (.int (0 : Int32)), .val (.ref r_V1_0), .val (.ref b3), .val (.int (12 : Int32)), .val (.int x2), .unset, .val (.int (1 : Int32)), .val (.int (0 : Int32))]) rfl (XS.iload X9.here hx rfl (hb hby at_113) rfl (XS.ifYes X9.here hx rfl (pc0 := 115) (pc' := 127) rfl (hb hby at_115) rfl ((if0 _ _).trans (feq (by decide)).2) (by decide) (by decide) (XS.iconst X9.here hx rfl (hb hby at_127) (XS.goto X9.here hx rfl (pc0 := 128) (pc' := 132) rfl (hb hby at_128) (by decide) (by decide) (XS.istore X9.here hx rfl (hb hby at_132) rfl (l' := #[.val (.int x0), .val (.int x1), .val (.int x2), .val (.int (0 : Int32)), .val (.ref r_V1_0), .val (.ref b3), .val (.int (12 : Int32)), .val (.int x2), .val (.int (1 : Int32)), .val (.int (1 : Int32)), .val (.int (0 : Int32))]) rfl (XS.goto X9.here hx rfl (pc0 := 134) (pc' := 187) rfl (hb hby at_134) (by decide) (by decide) (XS.aload X9.here hx rfl (hb hby at_187) rfl rfl (XS.iload X9.here hx rfl (hb hby at_189) rfl hr)))))))))) ?_
        show own_Go p e below _ (T9.setTop (mkF m 191 #[.val (.int x0), .val (.int x1), .val (.int x2), .val (.int (0 : Int32)), .val (.ref r_V1_0), .val (.ref b3), .val (.int (12 : Int32)), .val (.int x2), .val (.int (1 : Int32)), .val (.int (1 : Int32)), .val (.int (0 : Int32))] [(.int x2), (.ref r_V1_0)]))
        have f86 := (((((S_V1_0.ext E3).wr W6).wr W7).wr W8).wr W9)
        have f87 := (((((E_V1_0.ext E3).wr W6).wr W7).wr W8).wr W9)
        have f88 := (((((S_V1_1.ext E3).wr W6).wr W7).wr W8).wr W9)
        have f89 := (((((E_V1_1.ext E3).wr W6).wr W7).wr W8).wr W9)
        have Z90 := (Nat.le_trans (Nat.le_trans (Nat.le_trans (Nat.le_trans (Nat.le_trans Z0 E3.1) (Nat.le_of_eq W6.size.symm)) (Nat.le_of_eq W7.size.symm)) (Nat.le_of_eq W8.size.symm)) (Nat.le_of_eq W9.size.symm))
        refine own_cv X9 hx hZ hown (notFace_of_selects (args := #[]) (mvT hZ (hw _ (own_m 8 rfl)))) (hw _ (own_m 5 rfl)) (hw _ (own_m 6 rfl)) (hw _ (own_m 8 rfl)) (hw _ (own_m 7 rfl)) (hw _ (own_m 1 rfl)) (hw _ (own_m 9 rfl)) (by decide) f87 (rm := { frames := 0, cells := 0, slots := 0, locals := 0 }) (rm_l0 l Z a0 hw [] x2 r_V1_0 r_V1_1 h9 n0 Z90 f86 f87 f88 f89 ne_V1_0_V1_1) (by decide) (W := 0) (by decide) (by decide) (by decide) e9 (by rw [hml]; rfl) (argsL := [(.int x2)]) (lenOf own_pd0 rfl) (rest := []) rfl rfl (Nat.le_of_eq rfl) (hb hby at_191) ?_
        intro _ T85 L85 X85 hQ85
        obtain ⟨rfl, N85q, e85⟩ := hQ85
        have N85 := Fr.app N9 N85q
        show own_Go p e below _ (T85.setTop (mkF m 194 #[.val (.int x0), .val (.int x1), .val (.int x2), .val (.int (0 : Int32)), .val (.ref r_V1_0), .val (.ref b3), .val (.int (12 : Int32)), .val (.int x2), .val (.int (1 : Int32)), .val (.int (1 : Int32)), .val (.int (0 : Int32))] [(.int (own_l0 x2))]))
        refine own_go (fun _ hr => XS.iload X85.here hx rfl (hb hby at_194) rfl hr) ?_
        show own_Go p e below _ (T85.setTop (mkF m 196 #[.val (.int x0), .val (.int x1), .val (.int x2), .val (.int (0 : Int32)), .val (.ref r_V1_0), .val (.ref b3), .val (.int (12 : Int32)), .val (.int x2), .val (.int (1 : Int32)), .val (.int (1 : Int32)), .val (.int (0 : Int32))] [(.int (1 : Int32)), (.int (own_l0 x2))]))
        have c91 : (own_l0 x2) = (1 : Int32) := by simp [own_l0, c82, c83, c84]
        refine own_go (fun _ hr => XS.icmpNo X85.here hx rfl (hb hby at_196) rfl (teq c91).2 hr) ?_
        show own_Go p e below _ (T85.setTop (mkF m 199 #[.val (.int x0), .val (.int x1), .val (.int x2), .val (.int (0 : Int32)), .val (.ref r_V1_0), .val (.ref b3), .val (.int (12 : Int32)), .val (.int x2), .val (.int (1 : Int32)), .val (.int (1 : Int32)), .val (.int (0 : Int32))] []))
        refine own_go (fun _ hr => XS.iconst X85.here hx rfl (hb hby at_199) (XS.goto X85.here hx rfl (pc0 := 200) (pc' := 204) rfl (hb hby at_200) (by decide) (by decide) hr)) ?_
        show own_Go p e below _ (T85.setTop (mkF m 204 #[.val (.int x0), .val (.int x1), .val (.int x2), .val (.int (0 : Int32)), .val (.ref r_V1_0), .val (.ref b3), .val (.int (12 : Int32)), .val (.int x2), .val (.int (1 : Int32)), .val (.int (1 : Int32)), .val (.int (0 : Int32))] [(.int (1 : Int32))]))
        exact own_retN X85 hx hlk Bd.returns (t := .boolean) (by simp) (hb hby at_204) (by decide) (by decide) ⟨rfl, N85⟩
      refine own_go (fun _ hr => XS.icmpNo X9.here hx rfl (hb hby at_76) rfl (feq c82).1 hr) ?_
      show own_Go p e below _ (T9.setTop (mkF m 79 #[.val (.int x0), .val (.int x1), .val (.int x2), .val (.int (0 : Int32)), .val (.ref r_V1_0), .val (.ref b3), .val (.int (12 : Int32)), .val (.int x2), .unset, .unset, .unset] []))
      refine own_go (fun _ hr => XS.iloadN X9.here hx rfl (hb hby at_79) rfl (XS.bipush X9.here hx rfl (hb hby at_80) hr)) ?_
      show own_Go p e below _ (T9.setTop (mkF m 82 #[.val (.int x0), .val (.int x1), .val (.int x2), .val (.int (0 : Int32)), .val (.ref r_V1_0), .val (.ref b3), .val (.int (12 : Int32)), .val (.int x2), .unset, .unset, .unset] [(.int (13 : Int32)), (.int x2)]))
      by_cases c92 : x2 = (13 : Int32)
      · refine own_go (fun _ hr => XS.icmpNo X9.here hx rfl (hb hby at_82) rfl (teq c92).2 hr) ?_
        show own_Go p e below _ (T9.setTop (mkF m 85 #[.val (.int x0), .val (.int x1), .val (.int x2), .val (.int (0 : Int32)), .val (.ref r_V1_0), .val (.ref b3), .val (.int (12 : Int32)), .val (.int x2), .unset, .unset, .unset] []))
        refine own_go (fun _ hr => XS.iconst X9.here hx rfl (hb hby at_85) (XS.goto X9.here hx rfl (pc0 := 86) (pc' := 90) rfl (hb hby at_86) (by decide) (by decide) (XS.istore X9.here hx rfl (hb hby at_90) rfl (l' := #[.val (.int x0), .val (.int x1), .val (.int x2), .val (.int (0 : Int32)), .val (.ref r_V1_0), .val (.ref b3), .val (.int (12 : Int32)), .val (.int x2), .unset, .val (.int (1 : Int32)), .unset]) rfl (XS.iloadN X9.here hx rfl (hb hby at_92) rfl (XS.sipush X9.here hx rfl (hb hby at_93) hr))))) ?_
        show own_Go p e below _ (T9.setTop (mkF m 96 #[.val (.int x0), .val (.int x1), .val (.int x2), .val (.int (0 : Int32)), .val (.ref r_V1_0), .val (.ref b3), .val (.int (12 : Int32)), .val (.int x2), .unset, .val (.int (1 : Int32)), .unset] [(.int (133 : Int32)), (.int x2)]))
        have c93 : ¬ (x2 = (133 : Int32)) := by rw [c92]; decide
        refine own_go (fun _ hr => XS.icmpNo X9.here hx rfl (hb hby at_96) rfl (feq c93).1 hr) ?_
        show own_Go p e below _ (T9.setTop (mkF m 99 #[.val (.int x0), .val (.int x1), .val (.int x2), .val (.int (0 : Int32)), .val (.ref r_V1_0), .val (.ref b3), .val (.int (12 : Int32)), .val (.int x2), .unset, .val (.int (1 : Int32)), .unset] []))
        refine own_go (fun _ hr => XS.iloadN X9.here hx rfl (hb hby at_99) rfl (XS.sipush X9.here hx rfl (hb hby at_100) hr)) ?_
        show own_Go p e below _ (T9.setTop (mkF m 103 #[.val (.int x0), .val (.int x1), .val (.int x2), .val (.int (0 : Int32)), .val (.ref r_V1_0), .val (.ref b3), .val (.int (12 : Int32)), .val (.int x2), .unset, .val (.int (1 : Int32)), .unset] [(.int (8232 : Int32)), (.int x2)]))
        have c94 : ¬ (x2 = (8232 : Int32)) := by rw [c92]; decide
        refine own_go (fun _ hr => XS.icmpYes X9.here hx rfl (pc0 := 103) (pc' := 110) rfl (hb hby at_103) rfl (feq c94).2 (by decide) (by decide) hr) ?_
        show own_Go p e below _ (T9.setTop (mkF m 110 #[.val (.int x0), .val (.int x1), .val (.int x2), .val (.int (0 : Int32)), .val (.ref r_V1_0), .val (.ref b3), .val (.int (12 : Int32)), .val (.int x2), .unset, .val (.int (1 : Int32)), .unset] []))
        refine own_go (fun _ hr => XS.iconst X9.here hx rfl (hb hby at_110) (XS.istore X9.here hx rfl (hb hby at_111) rfl (l' := #[.val (.int x0), .val (.int x1), .val (.int x2), .val (.int (0 : Int32)), .val (.ref r_V1_0), .val (.ref b3), .val (.int (12 : Int32)), .val (.int x2), .unset, .val (.int (1 : Int32)), .val (.int (0 : Int32))]) rfl (XS.iload X9.here hx rfl (hb hby at_113) rfl (XS.ifYes X9.here hx rfl (pc0 := 115) (pc' := 127) rfl (hb hby at_115) rfl ((if0 _ _).trans (feq (by decide)).2) (by decide) (by decide) (XS.iconst X9.here hx rfl (hb hby at_127) (XS.goto X9.here hx rfl (pc0 := 128) (pc' := 132) rfl (hb hby at_128) (by decide) (by decide) (XS.istore X9.here hx rfl (hb hby at_132) rfl (l' := #[.val (.int x0), .val (.int x1), .val (.int x2), .val (.int (0 : Int32)), .val (.ref r_V1_0), .val (.ref b3), .val (.int (12 : Int32)), .val (.int x2), .val (.int (1 : Int32)), .val (.int (1 : Int32)), .val (.int (0 : Int32))]) rfl (XS.goto X9.here hx rfl (pc0 := 134) (pc' := 187) rfl (hb hby at_134) (by decide) (by decide) (XS.aload X9.here hx rfl (hb hby at_187) rfl rfl (XS.iload X9.here hx rfl (hb hby at_189) rfl hr)))))))))) ?_
        show own_Go p e below _ (T9.setTop (mkF m 191 #[.val (.int x0), .val (.int x1), .val (.int x2), .val (.int (0 : Int32)), .val (.ref r_V1_0), .val (.ref b3), .val (.int (12 : Int32)), .val (.int x2), .val (.int (1 : Int32)), .val (.int (1 : Int32)), .val (.int (0 : Int32))] [(.int x2), (.ref r_V1_0)]))
        have f96 := (((((S_V1_0.ext E3).wr W6).wr W7).wr W8).wr W9)
        have f97 := (((((E_V1_0.ext E3).wr W6).wr W7).wr W8).wr W9)
        have f98 := (((((S_V1_1.ext E3).wr W6).wr W7).wr W8).wr W9)
        have f99 := (((((E_V1_1.ext E3).wr W6).wr W7).wr W8).wr W9)
        have Z100 := (Nat.le_trans (Nat.le_trans (Nat.le_trans (Nat.le_trans (Nat.le_trans Z0 E3.1) (Nat.le_of_eq W6.size.symm)) (Nat.le_of_eq W7.size.symm)) (Nat.le_of_eq W8.size.symm)) (Nat.le_of_eq W9.size.symm))
        refine own_cv X9 hx hZ hown (notFace_of_selects (args := #[]) (mvT hZ (hw _ (own_m 8 rfl)))) (hw _ (own_m 5 rfl)) (hw _ (own_m 6 rfl)) (hw _ (own_m 8 rfl)) (hw _ (own_m 7 rfl)) (hw _ (own_m 1 rfl)) (hw _ (own_m 9 rfl)) (by decide) f97 (rm := { frames := 0, cells := 0, slots := 0, locals := 0 }) (rm_l0 l Z a0 hw [] x2 r_V1_0 r_V1_1 h9 n0 Z100 f96 f97 f98 f99 ne_V1_0_V1_1) (by decide) (W := 0) (by decide) (by decide) (by decide) e9 (by rw [hml]; rfl) (argsL := [(.int x2)]) (lenOf own_pd0 rfl) (rest := []) rfl rfl (Nat.le_of_eq rfl) (hb hby at_191) ?_
        intro _ T95 L95 X95 hQ95
        obtain ⟨rfl, N95q, e95⟩ := hQ95
        have N95 := Fr.app N9 N95q
        show own_Go p e below _ (T95.setTop (mkF m 194 #[.val (.int x0), .val (.int x1), .val (.int x2), .val (.int (0 : Int32)), .val (.ref r_V1_0), .val (.ref b3), .val (.int (12 : Int32)), .val (.int x2), .val (.int (1 : Int32)), .val (.int (1 : Int32)), .val (.int (0 : Int32))] [(.int (own_l0 x2))]))
        refine own_go (fun _ hr => XS.iload X95.here hx rfl (hb hby at_194) rfl hr) ?_
        show own_Go p e below _ (T95.setTop (mkF m 196 #[.val (.int x0), .val (.int x1), .val (.int x2), .val (.int (0 : Int32)), .val (.ref r_V1_0), .val (.ref b3), .val (.int (12 : Int32)), .val (.int x2), .val (.int (1 : Int32)), .val (.int (1 : Int32)), .val (.int (0 : Int32))] [(.int (1 : Int32)), (.int (own_l0 x2))]))
        have c101 : (own_l0 x2) = (1 : Int32) := by simp [own_l0, c82, c92, c93, c94]
        refine own_go (fun _ hr => XS.icmpNo X95.here hx rfl (hb hby at_196) rfl (teq c101).2 hr) ?_
        show own_Go p e below _ (T95.setTop (mkF m 199 #[.val (.int x0), .val (.int x1), .val (.int x2), .val (.int (0 : Int32)), .val (.ref r_V1_0), .val (.ref b3), .val (.int (12 : Int32)), .val (.int x2), .val (.int (1 : Int32)), .val (.int (1 : Int32)), .val (.int (0 : Int32))] []))
        refine own_go (fun _ hr => XS.iconst X95.here hx rfl (hb hby at_199) (XS.goto X95.here hx rfl (pc0 := 200) (pc' := 204) rfl (hb hby at_200) (by decide) (by decide) hr)) ?_
        show own_Go p e below _ (T95.setTop (mkF m 204 #[.val (.int x0), .val (.int x1), .val (.int x2), .val (.int (0 : Int32)), .val (.ref r_V1_0), .val (.ref b3), .val (.int (12 : Int32)), .val (.int x2), .val (.int (1 : Int32)), .val (.int (1 : Int32)), .val (.int (0 : Int32))] [(.int (1 : Int32))]))
        exact own_retN X95 hx hlk Bd.returns (t := .boolean) (by simp) (hb hby at_204) (by decide) (by decide) ⟨rfl, N95⟩
      refine own_go (fun _ hr => XS.icmpYes X9.here hx rfl (pc0 := 82) (pc' := 89) rfl (hb hby at_82) rfl (feq c92).2 (by decide) (by decide) hr) ?_
      show own_Go p e below _ (T9.setTop (mkF m 89 #[.val (.int x0), .val (.int x1), .val (.int x2), .val (.int (0 : Int32)), .val (.ref r_V1_0), .val (.ref b3), .val (.int (12 : Int32)), .val (.int x2), .unset, .unset, .unset] []))
      refine own_go (fun _ hr => XS.iconst X9.here hx rfl (hb hby at_89) (XS.istore X9.here hx rfl (hb hby at_90) rfl (l' := #[.val (.int x0), .val (.int x1), .val (.int x2), .val (.int (0 : Int32)), .val (.ref r_V1_0), .val (.ref b3), .val (.int (12 : Int32)), .val (.int x2), .unset, .val (.int (0 : Int32)), .unset]) rfl (XS.iloadN X9.here hx rfl (hb hby at_92) rfl (XS.sipush X9.here hx rfl (hb hby at_93) hr)))) ?_
      show own_Go p e below _ (T9.setTop (mkF m 96 #[.val (.int x0), .val (.int x1), .val (.int x2), .val (.int (0 : Int32)), .val (.ref r_V1_0), .val (.ref b3), .val (.int (12 : Int32)), .val (.int x2), .unset, .val (.int (0 : Int32)), .unset] [(.int (133 : Int32)), (.int x2)]))
      by_cases c102 : x2 = (133 : Int32)
      · refine own_go (fun _ hr => XS.icmpYes X9.here hx rfl (pc0 := 96) (pc' := 106) rfl (hb hby at_96) rfl (teq c102).1 (by decide) (by decide) hr) ?_
        show own_Go p e below _ (T9.setTop (mkF m 106 #[.val (.int x0), .val (.int x1), .val (.int x2), .val (.int (0 : Int32)), .val (.ref r_V1_0), .val (.ref b3), .val (.int (12 : Int32)), .val (.int x2), .unset, .val (.int (0 : Int32)), .unset] []))
        refine own_go (fun _ hr => XS.iconst X9.here hx rfl (hb hby at_106) (XS.goto X9.here hx rfl (pc0 := 107) (pc' := 111) rfl (hb hby at_107) (by decide) (by decide) (XS.istore X9.here hx rfl (hb hby at_111) rfl (l' := #[.val (.int x0), .val (.int x1), .val (.int x2), .val (.int (0 : Int32)), .val (.ref r_V1_0), .val (.ref b3), .val (.int (12 : Int32)), .val (.int x2), .unset, .val (.int (0 : Int32)), .val (.int (1 : Int32))]) rfl (XS.iload X9.here hx rfl (hb hby at_113) rfl (XS.ifNo X9.here hx rfl (hb hby at_115) rfl ((if0 _ _).trans (teq (by decide)).2) (XS.iloadN X9.here hx rfl (hb hby at_118) rfl (XS.ifYes X9.here hx rfl (pc0 := 119) (pc' := 131) rfl (hb hby at_119) rfl ((if0 _ _).trans (teq (by decide)).1) (by decide) (by decide) (XS.iconst X9.here hx rfl (hb hby at_131) (XS.istore X9.here hx rfl (hb hby at_132) rfl (l' := #[.val (.int x0), .val (.int x1), .val (.int x2), .val (.int (0 : Int32)), .val (.ref r_V1_0), .val (.ref b3), .val (.int (12 : Int32)), .val (.int x2), .val (.int (0 : Int32)), .val (.int (0 : Int32)), .val (.int (1 : Int32))]) rfl (XS.goto X9.here hx rfl (pc0 := 134) (pc' := 187) rfl (hb hby at_134) (by decide) (by decide) hr)))))))))) ?_
        show own_Go p e below _ (T9.setTop (mkF m 187 #[.val (.int x0), .val (.int x1), .val (.int x2), .val (.int (0 : Int32)), .val (.ref r_V1_0), .val (.ref b3), .val (.int (12 : Int32)), .val (.int x2), .val (.int (0 : Int32)), .val (.int (0 : Int32)), .val (.int (1 : Int32))] []))
        refine own_go (fun _ hr => XS.aload X9.here hx rfl (hb hby at_187) rfl rfl (XS.iload X9.here hx rfl (hb hby at_189) rfl hr)) ?_
        show own_Go p e below _ (T9.setTop (mkF m 191 #[.val (.int x0), .val (.int x1), .val (.int x2), .val (.int (0 : Int32)), .val (.ref r_V1_0), .val (.ref b3), .val (.int (12 : Int32)), .val (.int x2), .val (.int (0 : Int32)), .val (.int (0 : Int32)), .val (.int (1 : Int32))] [(.int x2), (.ref r_V1_0)]))
        have f104 := (((((S_V1_0.ext E3).wr W6).wr W7).wr W8).wr W9)
        have f105 := (((((E_V1_0.ext E3).wr W6).wr W7).wr W8).wr W9)
        have f106 := (((((S_V1_1.ext E3).wr W6).wr W7).wr W8).wr W9)
        have f107 := (((((E_V1_1.ext E3).wr W6).wr W7).wr W8).wr W9)
        have Z108 := (Nat.le_trans (Nat.le_trans (Nat.le_trans (Nat.le_trans (Nat.le_trans Z0 E3.1) (Nat.le_of_eq W6.size.symm)) (Nat.le_of_eq W7.size.symm)) (Nat.le_of_eq W8.size.symm)) (Nat.le_of_eq W9.size.symm))
        refine own_cv X9 hx hZ hown (notFace_of_selects (args := #[]) (mvT hZ (hw _ (own_m 8 rfl)))) (hw _ (own_m 5 rfl)) (hw _ (own_m 6 rfl)) (hw _ (own_m 8 rfl)) (hw _ (own_m 7 rfl)) (hw _ (own_m 1 rfl)) (hw _ (own_m 9 rfl)) (by decide) f105 (rm := { frames := 0, cells := 0, slots := 0, locals := 0 }) (rm_l0 l Z a0 hw [] x2 r_V1_0 r_V1_1 h9 n0 Z108 f104 f105 f106 f107 ne_V1_0_V1_1) (by decide) (W := 0) (by decide) (by decide) (by decide) e9 (by rw [hml]; rfl) (argsL := [(.int x2)]) (lenOf own_pd0 rfl) (rest := []) rfl rfl (Nat.le_of_eq rfl) (hb hby at_191) ?_
        intro _ T103 L103 X103 hQ103
        obtain ⟨rfl, N103q, e103⟩ := hQ103
        have N103 := Fr.app N9 N103q
        show own_Go p e below _ (T103.setTop (mkF m 194 #[.val (.int x0), .val (.int x1), .val (.int x2), .val (.int (0 : Int32)), .val (.ref r_V1_0), .val (.ref b3), .val (.int (12 : Int32)), .val (.int x2), .val (.int (0 : Int32)), .val (.int (0 : Int32)), .val (.int (1 : Int32))] [(.int (own_l0 x2))]))
        refine own_go (fun _ hr => XS.iload X103.here hx rfl (hb hby at_194) rfl hr) ?_
        show own_Go p e below _ (T103.setTop (mkF m 196 #[.val (.int x0), .val (.int x1), .val (.int x2), .val (.int (0 : Int32)), .val (.ref r_V1_0), .val (.ref b3), .val (.int (12 : Int32)), .val (.int x2), .val (.int (0 : Int32)), .val (.int (0 : Int32)), .val (.int (1 : Int32))] [(.int (0 : Int32)), (.int (own_l0 x2))]))
        have c109 : (own_l0 x2) = (0 : Int32) := by simp [own_l0, c82, c92, c102]
        refine own_go (fun _ hr => XS.icmpNo X103.here hx rfl (hb hby at_196) rfl (teq c109).2 hr) ?_
        show own_Go p e below _ (T103.setTop (mkF m 199 #[.val (.int x0), .val (.int x1), .val (.int x2), .val (.int (0 : Int32)), .val (.ref r_V1_0), .val (.ref b3), .val (.int (12 : Int32)), .val (.int x2), .val (.int (0 : Int32)), .val (.int (0 : Int32)), .val (.int (1 : Int32))] []))
        refine own_go (fun _ hr => XS.iconst X103.here hx rfl (hb hby at_199) (XS.goto X103.here hx rfl (pc0 := 200) (pc' := 204) rfl (hb hby at_200) (by decide) (by decide) hr)) ?_
        show own_Go p e below _ (T103.setTop (mkF m 204 #[.val (.int x0), .val (.int x1), .val (.int x2), .val (.int (0 : Int32)), .val (.ref r_V1_0), .val (.ref b3), .val (.int (12 : Int32)), .val (.int x2), .val (.int (0 : Int32)), .val (.int (0 : Int32)), .val (.int (1 : Int32))] [(.int (1 : Int32))]))
        exact own_retN X103 hx hlk Bd.returns (t := .boolean) (by simp) (hb hby at_204) (by decide) (by decide) ⟨rfl, N103⟩
      refine own_go (fun _ hr => XS.icmpNo X9.here hx rfl (hb hby at_96) rfl (feq c102).1 hr) ?_
      show own_Go p e below _ (T9.setTop (mkF m 99 #[.val (.int x0), .val (.int x1), .val (.int x2), .val (.int (0 : Int32)), .val (.ref r_V1_0), .val (.ref b3), .val (.int (12 : Int32)), .val (.int x2), .unset, .val (.int (0 : Int32)), .unset] []))
      refine own_go (fun _ hr => XS.iloadN X9.here hx rfl (hb hby at_99) rfl (XS.sipush X9.here hx rfl (hb hby at_100) hr)) ?_
      show own_Go p e below _ (T9.setTop (mkF m 103 #[.val (.int x0), .val (.int x1), .val (.int x2), .val (.int (0 : Int32)), .val (.ref r_V1_0), .val (.ref b3), .val (.int (12 : Int32)), .val (.int x2), .unset, .val (.int (0 : Int32)), .unset] [(.int (8232 : Int32)), (.int x2)]))
      by_cases c110 : x2 = (8232 : Int32)
      · refine own_go (fun _ hr => XS.icmpNo X9.here hx rfl (hb hby at_103) rfl (teq c110).2 hr) ?_
        show own_Go p e below _ (T9.setTop (mkF m 106 #[.val (.int x0), .val (.int x1), .val (.int x2), .val (.int (0 : Int32)), .val (.ref r_V1_0), .val (.ref b3), .val (.int (12 : Int32)), .val (.int x2), .unset, .val (.int (0 : Int32)), .unset] []))
        refine own_go (fun _ hr => XS.iconst X9.here hx rfl (hb hby at_106) (XS.goto X9.here hx rfl (pc0 := 107) (pc' := 111) rfl (hb hby at_107) (by decide) (by decide) (XS.istore X9.here hx rfl (hb hby at_111) rfl (l' := #[.val (.int x0), .val (.int x1), .val (.int x2), .val (.int (0 : Int32)), .val (.ref r_V1_0), .val (.ref b3), .val (.int (12 : Int32)), .val (.int x2), .unset, .val (.int (0 : Int32)), .val (.int (1 : Int32))]) rfl (XS.iload X9.here hx rfl (hb hby at_113) rfl (XS.ifNo X9.here hx rfl (hb hby at_115) rfl ((if0 _ _).trans (teq (by decide)).2) (XS.iloadN X9.here hx rfl (hb hby at_118) rfl (XS.ifYes X9.here hx rfl (pc0 := 119) (pc' := 131) rfl (hb hby at_119) rfl ((if0 _ _).trans (teq (by decide)).1) (by decide) (by decide) (XS.iconst X9.here hx rfl (hb hby at_131) (XS.istore X9.here hx rfl (hb hby at_132) rfl (l' := #[.val (.int x0), .val (.int x1), .val (.int x2), .val (.int (0 : Int32)), .val (.ref r_V1_0), .val (.ref b3), .val (.int (12 : Int32)), .val (.int x2), .val (.int (0 : Int32)), .val (.int (0 : Int32)), .val (.int (1 : Int32))]) rfl (XS.goto X9.here hx rfl (pc0 := 134) (pc' := 187) rfl (hb hby at_134) (by decide) (by decide) hr)))))))))) ?_
        show own_Go p e below _ (T9.setTop (mkF m 187 #[.val (.int x0), .val (.int x1), .val (.int x2), .val (.int (0 : Int32)), .val (.ref r_V1_0), .val (.ref b3), .val (.int (12 : Int32)), .val (.int x2), .val (.int (0 : Int32)), .val (.int (0 : Int32)), .val (.int (1 : Int32))] []))
        refine own_go (fun _ hr => XS.aload X9.here hx rfl (hb hby at_187) rfl rfl (XS.iload X9.here hx rfl (hb hby at_189) rfl hr)) ?_
        show own_Go p e below _ (T9.setTop (mkF m 191 #[.val (.int x0), .val (.int x1), .val (.int x2), .val (.int (0 : Int32)), .val (.ref r_V1_0), .val (.ref b3), .val (.int (12 : Int32)), .val (.int x2), .val (.int (0 : Int32)), .val (.int (0 : Int32)), .val (.int (1 : Int32))] [(.int x2), (.ref r_V1_0)]))
        have f112 := (((((S_V1_0.ext E3).wr W6).wr W7).wr W8).wr W9)
        have f113 := (((((E_V1_0.ext E3).wr W6).wr W7).wr W8).wr W9)
        have f114 := (((((S_V1_1.ext E3).wr W6).wr W7).wr W8).wr W9)
        have f115 := (((((E_V1_1.ext E3).wr W6).wr W7).wr W8).wr W9)
        have Z116 := (Nat.le_trans (Nat.le_trans (Nat.le_trans (Nat.le_trans (Nat.le_trans Z0 E3.1) (Nat.le_of_eq W6.size.symm)) (Nat.le_of_eq W7.size.symm)) (Nat.le_of_eq W8.size.symm)) (Nat.le_of_eq W9.size.symm))
        refine own_cv X9 hx hZ hown (notFace_of_selects (args := #[]) (mvT hZ (hw _ (own_m 8 rfl)))) (hw _ (own_m 5 rfl)) (hw _ (own_m 6 rfl)) (hw _ (own_m 8 rfl)) (hw _ (own_m 7 rfl)) (hw _ (own_m 1 rfl)) (hw _ (own_m 9 rfl)) (by decide) f113 (rm := { frames := 0, cells := 0, slots := 0, locals := 0 }) (rm_l0 l Z a0 hw [] x2 r_V1_0 r_V1_1 h9 n0 Z116 f112 f113 f114 f115 ne_V1_0_V1_1) (by decide) (W := 0) (by decide) (by decide) (by decide) e9 (by rw [hml]; rfl) (argsL := [(.int x2)]) (lenOf own_pd0 rfl) (rest := []) rfl rfl (Nat.le_of_eq rfl) (hb hby at_191) ?_
        intro _ T111 L111 X111 hQ111
        obtain ⟨rfl, N111q, e111⟩ := hQ111
        have N111 := Fr.app N9 N111q
        show own_Go p e below _ (T111.setTop (mkF m 194 #[.val (.int x0), .val (.int x1), .val (.int x2), .val (.int (0 : Int32)), .val (.ref r_V1_0), .val (.ref b3), .val (.int (12 : Int32)), .val (.int x2), .val (.int (0 : Int32)), .val (.int (0 : Int32)), .val (.int (1 : Int32))] [(.int (own_l0 x2))]))
        refine own_go (fun _ hr => XS.iload X111.here hx rfl (hb hby at_194) rfl hr) ?_
        show own_Go p e below _ (T111.setTop (mkF m 196 #[.val (.int x0), .val (.int x1), .val (.int x2), .val (.int (0 : Int32)), .val (.ref r_V1_0), .val (.ref b3), .val (.int (12 : Int32)), .val (.int x2), .val (.int (0 : Int32)), .val (.int (0 : Int32)), .val (.int (1 : Int32))] [(.int (0 : Int32)), (.int (own_l0 x2))]))
        have c117 : (own_l0 x2) = (0 : Int32) := by simp [own_l0, c82, c92, c102, c110]
        refine own_go (fun _ hr => XS.icmpNo X111.here hx rfl (hb hby at_196) rfl (teq c117).2 hr) ?_
        show own_Go p e below _ (T111.setTop (mkF m 199 #[.val (.int x0), .val (.int x1), .val (.int x2), .val (.int (0 : Int32)), .val (.ref r_V1_0), .val (.ref b3), .val (.int (12 : Int32)), .val (.int x2), .val (.int (0 : Int32)), .val (.int (0 : Int32)), .val (.int (1 : Int32))] []))
        refine own_go (fun _ hr => XS.iconst X111.here hx rfl (hb hby at_199) (XS.goto X111.here hx rfl (pc0 := 200) (pc' := 204) rfl (hb hby at_200) (by decide) (by decide) hr)) ?_
        show own_Go p e below _ (T111.setTop (mkF m 204 #[.val (.int x0), .val (.int x1), .val (.int x2), .val (.int (0 : Int32)), .val (.ref r_V1_0), .val (.ref b3), .val (.int (12 : Int32)), .val (.int x2), .val (.int (0 : Int32)), .val (.int (0 : Int32)), .val (.int (1 : Int32))] [(.int (1 : Int32))]))
        exact own_retN X111 hx hlk Bd.returns (t := .boolean) (by simp) (hb hby at_204) (by decide) (by decide) ⟨rfl, N111⟩
      refine own_go (fun _ hr => XS.icmpYes X9.here hx rfl (pc0 := 103) (pc' := 110) rfl (hb hby at_103) rfl (feq c110).2 (by decide) (by decide) hr) ?_
      show own_Go p e below _ (T9.setTop (mkF m 110 #[.val (.int x0), .val (.int x1), .val (.int x2), .val (.int (0 : Int32)), .val (.ref r_V1_0), .val (.ref b3), .val (.int (12 : Int32)), .val (.int x2), .unset, .val (.int (0 : Int32)), .unset] []))
      refine own_go (fun _ hr => XS.iconst X9.here hx rfl (hb hby at_110) (XS.istore X9.here hx rfl (hb hby at_111) rfl (l' := #[.val (.int x0), .val (.int x1), .val (.int x2), .val (.int (0 : Int32)), .val (.ref r_V1_0), .val (.ref b3), .val (.int (12 : Int32)), .val (.int x2), .unset, .val (.int (0 : Int32)), .val (.int (0 : Int32))]) rfl (XS.iload X9.here hx rfl (hb hby at_113) rfl (XS.ifNo X9.here hx rfl (hb hby at_115) rfl ((if0 _ _).trans (teq (by decide)).2) (XS.iloadN X9.here hx rfl (hb hby at_118) rfl (XS.ifYes X9.here hx rfl (pc0 := 119) (pc' := 131) rfl (hb hby at_119) rfl ((if0 _ _).trans (teq (by decide)).1) (by decide) (by decide) (XS.iconst X9.here hx rfl (hb hby at_131) (XS.istore X9.here hx rfl (hb hby at_132) rfl (l' := #[.val (.int x0), .val (.int x1), .val (.int x2), .val (.int (0 : Int32)), .val (.ref r_V1_0), .val (.ref b3), .val (.int (12 : Int32)), .val (.int x2), .val (.int (0 : Int32)), .val (.int (0 : Int32)), .val (.int (0 : Int32))]) rfl (XS.goto X9.here hx rfl (pc0 := 134) (pc' := 187) rfl (hb hby at_134) (by decide) (by decide) (XS.aload X9.here hx rfl (hb hby at_187) rfl rfl hr)))))))))) ?_
      show own_Go p e below _ (T9.setTop (mkF m 189 #[.val (.int x0), .val (.int x1), .val (.int x2), .val (.int (0 : Int32)), .val (.ref r_V1_0), .val (.ref b3), .val (.int (12 : Int32)), .val (.int x2), .val (.int (0 : Int32)), .val (.int (0 : Int32)), .val (.int (0 : Int32))] [(.ref r_V1_0)]))
      refine own_go (fun _ hr => XS.iload X9.here hx rfl (hb hby at_189) rfl hr) ?_
      show own_Go p e below _ (T9.setTop (mkF m 191 #[.val (.int x0), .val (.int x1), .val (.int x2), .val (.int (0 : Int32)), .val (.ref r_V1_0), .val (.ref b3), .val (.int (12 : Int32)), .val (.int x2), .val (.int (0 : Int32)), .val (.int (0 : Int32)), .val (.int (0 : Int32))] [(.int x2), (.ref r_V1_0)]))
      have f119 := (((((S_V1_0.ext E3).wr W6).wr W7).wr W8).wr W9)
      have f120 := (((((E_V1_0.ext E3).wr W6).wr W7).wr W8).wr W9)
      have f121 := (((((S_V1_1.ext E3).wr W6).wr W7).wr W8).wr W9)
      have f122 := (((((E_V1_1.ext E3).wr W6).wr W7).wr W8).wr W9)
      have Z123 := (Nat.le_trans (Nat.le_trans (Nat.le_trans (Nat.le_trans (Nat.le_trans Z0 E3.1) (Nat.le_of_eq W6.size.symm)) (Nat.le_of_eq W7.size.symm)) (Nat.le_of_eq W8.size.symm)) (Nat.le_of_eq W9.size.symm))
      refine own_cv X9 hx hZ hown (notFace_of_selects (args := #[]) (mvT hZ (hw _ (own_m 8 rfl)))) (hw _ (own_m 5 rfl)) (hw _ (own_m 6 rfl)) (hw _ (own_m 8 rfl)) (hw _ (own_m 7 rfl)) (hw _ (own_m 1 rfl)) (hw _ (own_m 9 rfl)) (by decide) f120 (rm := { frames := 0, cells := 0, slots := 0, locals := 0 }) (rm_l0 l Z a0 hw [] x2 r_V1_0 r_V1_1 h9 n0 Z123 f119 f120 f121 f122 ne_V1_0_V1_1) (by decide) (W := 0) (by decide) (by decide) (by decide) e9 (by rw [hml]; rfl) (argsL := [(.int x2)]) (lenOf own_pd0 rfl) (rest := []) rfl rfl (Nat.le_of_eq rfl) (hb hby at_191) ?_
      intro _ T118 L118 X118 hQ118
      obtain ⟨rfl, N118q, e118⟩ := hQ118
      have N118 := Fr.app N9 N118q
      show own_Go p e below _ (T118.setTop (mkF m 194 #[.val (.int x0), .val (.int x1), .val (.int x2), .val (.int (0 : Int32)), .val (.ref r_V1_0), .val (.ref b3), .val (.int (12 : Int32)), .val (.int x2), .val (.int (0 : Int32)), .val (.int (0 : Int32)), .val (.int (0 : Int32))] [(.int (own_l0 x2))]))
      refine own_go (fun _ hr => XS.iload X118.here hx rfl (hb hby at_194) rfl hr) ?_
      show own_Go p e below _ (T118.setTop (mkF m 196 #[.val (.int x0), .val (.int x1), .val (.int x2), .val (.int (0 : Int32)), .val (.ref r_V1_0), .val (.ref b3), .val (.int (12 : Int32)), .val (.int x2), .val (.int (0 : Int32)), .val (.int (0 : Int32)), .val (.int (0 : Int32))] [(.int (0 : Int32)), (.int (own_l0 x2))]))
      have c124 : (own_l0 x2) = (0 : Int32) := by simp [own_l0, c82, c92, c102, c110]
      refine own_go (fun _ hr => XS.icmpNo X118.here hx rfl (hb hby at_196) rfl (teq c124).2 hr) ?_
      show own_Go p e below _ (T118.setTop (mkF m 199 #[.val (.int x0), .val (.int x1), .val (.int x2), .val (.int (0 : Int32)), .val (.ref r_V1_0), .val (.ref b3), .val (.int (12 : Int32)), .val (.int x2), .val (.int (0 : Int32)), .val (.int (0 : Int32)), .val (.int (0 : Int32))] []))
      refine own_go (fun _ hr => XS.iconst X118.here hx rfl (hb hby at_199) (XS.goto X118.here hx rfl (pc0 := 200) (pc' := 204) rfl (hb hby at_200) (by decide) (by decide) hr)) ?_
      show own_Go p e below _ (T118.setTop (mkF m 204 #[.val (.int x0), .val (.int x1), .val (.int x2), .val (.int (0 : Int32)), .val (.ref r_V1_0), .val (.ref b3), .val (.int (12 : Int32)), .val (.int x2), .val (.int (0 : Int32)), .val (.int (0 : Int32)), .val (.int (0 : Int32))] [(.int (1 : Int32))]))
      exact own_retN X118 hx hlk Bd.returns (t := .boolean) (by simp) (hb hby at_204) (by decide) (by decide) ⟨rfl, N118⟩
  refine own_go (fun _ hr => XS.ifNo X0.here hx rfl (hb hby at_3) rfl ((if0 _ _).trans (feq c1).1) hr) ?_
  show own_Go p e below _ (s₁.setTop (mkF m 6 #[.val (.int x0), .val (.int x1), .val (.int x2), .unset, .unset, .unset, .unset, .unset, .unset, .unset, .unset] []))
  refine own_go (fun _ hr => XS.iconst X0.here hx rfl (hb hby at_6) (XS.goto X0.here hx rfl (pc0 := 7) (pc' := 11) rfl (hb hby at_7) (by decide) (by decide) (XS.istoreN X0.here hx rfl (hb hby at_11) rfl (l' := #[.val (.int x0), .val (.int x1), .val (.int x2), .val (.int (1 : Int32)), .unset, .unset, .unset, .unset, .unset, .unset, .unset]) rfl (XS.iloadN X0.here hx rfl (hb hby at_12) rfl (XS.ifNo X0.here hx rfl (hb hby at_13) rfl ((if0 _ _).trans (feq (by decide)).1) hr))))) ?_
  show own_Go p e below _ (s₁.setTop (mkF m 16 #[.val (.int x0), .val (.int x1), .val (.int x2), .val (.int (1 : Int32)), .unset, .unset, .unset, .unset, .unset, .unset, .unset] []))
  obtain ⟨T125, X125, e125, st125⟩ := getS2 X0 hx hZ hown (host := "") (Or.inl (hw _ (own_m 12 rfl))) Via.refl e0 S_V1_1 (g := (mkF m 16 #[.val (.int x0), .val (.int x1), .val (.int x2), .val (.int (1 : Int32)), .unset, .unset, .unset, .unset, .unset, .unset, .unset] [])) rfl (hb hby at_16)
  refine own_go st125 ?_
  show own_Go p e below _ (T125.setTop (mkF m 19 #[.val (.int x0), .val (.int x1), .val (.int x2), .val (.int (1 : Int32)), .unset, .unset, .unset, .unset, .unset, .unset, .unset] [(.ref r_V1_1)]))
  refine own_go (fun _ hr => XS.goto X125.here hx rfl (pc0 := 19) (pc' := 25) rfl (hb hby at_19) (by decide) (by decide) (XS.astore X125.here hx rfl (hb hby at_25) rfl rfl (l' := #[.val (.int x0), .val (.int x1), .val (.int x2), .val (.int (1 : Int32)), .val (.ref r_V1_1), .unset, .unset, .unset, .unset, .unset, .unset]) rfl (XS.iconst X125.here hx rfl (hb hby at_27) hr))) ?_
  show own_Go p e below _ (T125.setTop (mkF m 28 #[.val (.int x0), .val (.int x1), .val (.int x2), .val (.int (1 : Int32)), .val (.ref r_V1_1), .unset, .unset, .unset, .unset, .unset, .unset] [(.int (4 : Int32))]))
  obtain ⟨T126, h126, k126, X126, e126, E126, A126, EA126, st126⟩ := newPE X125 hx hZ (hw _ (own_m 3 rfl)) e125 (g := (mkF m 28 #[.val (.int x0), .val (.int x1), .val (.int x2), .val (.int (1 : Int32)), .val (.ref r_V1_1), .unset, .unset, .unset, .unset, .unset, .unset] [(.int (4 : Int32))])) rfl (hb hby at_28) rfl (by decide) (cap := 4) (by decide) (by decide) (by decide) (by decide) (ad := "[I") (by decide)
  obtain ⟨b126, g126⟩ : ∃ z, z = h0.size := ⟨_, rfl⟩
  rw [← g126] at A126 EA126 st126
  have ge127 : n0 ≤ b126 := Nat.le_trans Z0 (Nat.le_of_eq g126.symm)
  refine own_go st126 ?_
  have f128 : Arv Z h126 b126 k126 .int (4 : Int32) [(.int (0 : Int32)), (.int (0 : Int32)), (.int (0 : Int32)), (.int (0 : Int32))] (.int (0 : Int32)) := (Arv.new A126 (by decide)).pad (pad_rep [] (.int (0 : Int32)) 4)
  show own_Go p e below _ (T126.setTop (mkF m 30 #[.val (.int x0), .val (.int x1), .val (.int x2), .val (.int (1 : Int32)), .val (.ref r_V1_1), .unset, .unset, .unset, .unset, .unset, .unset] [(.ref b126)]))
  refine own_go (fun _ hr => XS.dup X126.here hx rfl (hb hby at_30) rfl rfl (XS.iconst X126.here hx rfl (hb hby at_31) (XS.bipush X126.here hx rfl (hb hby at_32) hr))) ?_
  show own_Go p e below _ (T126.setTop (mkF m 34 #[.val (.int x0), .val (.int x1), .val (.int x2), .val (.int (1 : Int32)), .val (.ref r_V1_1), .unset, .unset, .unset, .unset, .unset, .unset] [(.int (10 : Int32)), (.int (0 : Int32)), (.ref b126), (.ref b126)]))
  refine own_stI X126 hx hZ e126 f128 (0 : Int32) (10 : Int32) 0 ⟨by decide, by decide⟩ rfl (Nat.le_of_ble_eq_true rfl)  [(.int (10 : Int32)), (.int (0 : Int32)), (.int (0 : Int32)), (.int (0 : Int32))] rfl N0 ge127 (hb hby at_34) ?_
  intro T129 h129 L129 X129 e129 W129 N129 f129
  show own_Go p e below _ (T129.setTop (mkF m 35 #[.val (.int x0), .val (.int x1), .val (.int x2), .val (.int (1 : Int32)), .val (.ref r_V1_1), .unset, .unset, .unset, .unset, .unset, .unset] [(.ref b126)]))
  refine own_go (fun _ hr => XS.dup X129.here hx rfl (hb hby at_35) rfl rfl (XS.iconst X129.here hx rfl (hb hby at_36) (XS.bipush X129.here hx rfl (hb hby at_37) hr))) ?_
  show own_Go p e below _ (T129.setTop (mkF m 39 #[.val (.int x0), .val (.int x1), .val (.int x2), .val (.int (1 : Int32)), .val (.ref r_V1_1), .unset, .unset, .unset, .unset, .unset, .unset] [(.int (13 : Int32)), (.int (1 : Int32)), (.ref b126), (.ref b126)]))
  refine own_stI X129 hx hZ e129 f129 (1 : Int32) (13 : Int32) 1 ⟨by decide, by decide⟩ rfl (Nat.le_of_ble_eq_true rfl)  [(.int (10 : Int32)), (.int (13 : Int32)), (.int (0 : Int32)), (.int (0 : Int32))] rfl N129 ge127 (hb hby at_39) ?_
  intro T130 h130 L130 X130 e130 W130 N130 f130
  show own_Go p e below _ (T130.setTop (mkF m 40 #[.val (.int x0), .val (.int x1), .val (.int x2), .val (.int (1 : Int32)), .val (.ref r_V1_1), .unset, .unset, .unset, .unset, .unset, .unset] [(.ref b126)]))
  refine own_go (fun _ hr => XS.dup X130.here hx rfl (hb hby at_40) rfl rfl (XS.iconst X130.here hx rfl (hb hby at_41) (XS.sipush X130.here hx rfl (hb hby at_42) hr))) ?_
  show own_Go p e below _ (T130.setTop (mkF m 45 #[.val (.int x0), .val (.int x1), .val (.int x2), .val (.int (1 : Int32)), .val (.ref r_V1_1), .unset, .unset, .unset, .unset, .unset, .unset] [(.int (133 : Int32)), (.int (2 : Int32)), (.ref b126), (.ref b126)]))
  refine own_stI X130 hx hZ e130 f130 (2 : Int32) (133 : Int32) 2 ⟨by decide, by decide⟩ rfl (Nat.le_of_ble_eq_true rfl)  [(.int (10 : Int32)), (.int (13 : Int32)), (.int (133 : Int32)), (.int (0 : Int32))] rfl N130 ge127 (hb hby at_45) ?_
  intro T131 h131 L131 X131 e131 W131 N131 f131
  show own_Go p e below _ (T131.setTop (mkF m 46 #[.val (.int x0), .val (.int x1), .val (.int x2), .val (.int (1 : Int32)), .val (.ref r_V1_1), .unset, .unset, .unset, .unset, .unset, .unset] [(.ref b126)]))
  refine own_go (fun _ hr => XS.dup X131.here hx rfl (hb hby at_46) rfl rfl (XS.iconst X131.here hx rfl (hb hby at_47) (XS.sipush X131.here hx rfl (hb hby at_48) hr))) ?_
  show own_Go p e below _ (T131.setTop (mkF m 51 #[.val (.int x0), .val (.int x1), .val (.int x2), .val (.int (1 : Int32)), .val (.ref r_V1_1), .unset, .unset, .unset, .unset, .unset, .unset] [(.int (8232 : Int32)), (.int (3 : Int32)), (.ref b126), (.ref b126)]))
  refine own_stI X131 hx hZ e131 f131 (3 : Int32) (8232 : Int32) 3 ⟨by decide, by decide⟩ rfl (Nat.le_of_ble_eq_true rfl)  [(.int (10 : Int32)), (.int (13 : Int32)), (.int (133 : Int32)), (.int (8232 : Int32))] rfl N131 ge127 (hb hby at_51) ?_
  intro T132 h132 L132 X132 e132 W132 N132 f132
  show own_Go p e below _ (T132.setTop (mkF m 52 #[.val (.int x0), .val (.int x1), .val (.int x2), .val (.int (1 : Int32)), .val (.ref r_V1_1), .unset, .unset, .unset, .unset, .unset, .unset] [(.ref b126)]))
  refine own_go (fun _ hr => XS.astore X132.here hx rfl (hb hby at_52) rfl rfl (l' := #[.val (.int x0), .val (.int x1), .val (.int x2), .val (.int (1 : Int32)), .val (.ref r_V1_1), .val (.ref b126), .unset, .unset, .unset, .unset, .unset]) rfl (XS.iloadN X132.here hx rfl (hb hby at_54) rfl hr)) ?_
  show own_Go p e below _ (T132.setTop (mkF m 55 #[.val (.int x0), .val (.int x1), .val (.int x2), .val (.int (1 : Int32)), .val (.ref r_V1_1), .val (.ref b126), .unset, .unset, .unset, .unset, .unset] [(.int x1)]))
  refine own_go (X132.ldcInt hx hown (mvT hZ (hw _ (own_m 4 rfl))) rfl (hb hby at_55)) ?_
  show own_Go p e below _ (T132.setTop (mkF m 57 #[.val (.int x0), .val (.int x1), .val (.int x2), .val (.int (1 : Int32)), .val (.ref r_V1_1), .val (.ref b126), .unset, .unset, .unset, .unset, .unset] [(.int (2147483647 : Int32)), (.int x1)]))
  refine own_go (fun _ hr => XS.iand X132.here hx rfl (hb hby at_57) rfl (XS.bipush X132.here hx rfl (hb hby at_58) hr)) ?_
  show own_Go p e below _ (T132.setTop (mkF m 60 #[.val (.int x0), .val (.int x1), .val (.int x2), .val (.int (1 : Int32)), .val (.ref r_V1_1), .val (.ref b126), .unset, .unset, .unset, .unset, .unset] [(.int (13 : Int32)), (.int (x1 &&& (2147483647 : Int32)))]))
  have nz133 : (13 : Int32) ≠ (0 : Int32) := by decide
  refine own_go (fun _ hr => iremM X132 hx rfl (hb hby at_60) rfl nz133 hr) ?_
  show own_Go p e below _ (T132.setTop (mkF m 61 #[.val (.int x0), .val (.int x1), .val (.int x2), .val (.int (1 : Int32)), .val (.ref r_V1_1), .val (.ref b126), .unset, .unset, .unset, .unset, .unset] [(.int ((x1 &&& (2147483647 : Int32)) % (13 : Int32)))]))
  refine own_go (fun _ hr => XS.istore X132.here hx rfl (hb hby at_61) rfl (l' := #[.val (.int x0), .val (.int x1), .val (.int x2), .val (.int (1 : Int32)), .val (.ref r_V1_1), .val (.ref b126), .val (.int ((x1 &&& (2147483647 : Int32)) % (13 : Int32))), .unset, .unset, .unset, .unset]) rfl hr) ?_
  show own_Go p e below _ (T132.setTop (mkF m 63 #[.val (.int x0), .val (.int x1), .val (.int x2), .val (.int (1 : Int32)), .val (.ref r_V1_1), .val (.ref b126), .val (.int ((x1 &&& (2147483647 : Int32)) % (13 : Int32))), .unset, .unset, .unset, .unset] []))
  rcases own_mod13 x1 with hk134 | hk134 | hk134 | hk134 | hk134 | hk134 | hk134 | hk134 | hk134 | hk134 | hk134 | hk134 | hk134
  · rw [hk134]
    show own_Go p e below _ (T132.setTop (mkF m 63 #[.val (.int x0), .val (.int x1), .val (.int x2), .val (.int (1 : Int32)), .val (.ref r_V1_1), .val (.ref b126), .val (.int (0 : Int32)), .unset, .unset, .unset, .unset] []))
    refine own_go (fun _ hr => XS.iload X132.here hx rfl (hb hby at_63) rfl (XS.bipush X132.here hx rfl (hb hby at_65) (XS.icmpYes X132.here hx rfl (pc0 := 67) (pc' := 137) rfl (hb hby at_67) rfl (feq (by decide)).2 (by decide) (by decide) (XS.iload X132.here hx rfl (hb hby at_137) rfl (XS.iconst X132.here hx rfl (hb hby at_139) hr))))) ?_
    show own_Go p e below _ (T132.setTop (mkF m 140 #[.val (.int x0), .val (.int x1), .val (.int x2), .val (.int (1 : Int32)), .val (.ref r_V1_1), .val (.ref b126), .val (.int (0 : Int32)), .unset, .unset, .unset, .unset] [(.int (3 : Int32)), (.int (0 : Int32))]))
    have nz135 : (3 : Int32) ≠ (0 : Int32) := by decide
    refine own_go (fun _ hr => XS.idiv X132.here hx rfl (hb hby at_140) rfl nz135 hr) ?_
    show own_Go p e below _ (T132.setTop (mkF m 141 #[.val (.int x0), .val (.int x1), .val (.int x2), .val (.int (1 : Int32)), .val (.ref r_V1_1), .val (.ref b126), .val (.int (0 : Int32)), .unset, .unset, .unset, .unset] [(.int (0 : Int32))]))
    refine own_go (fun _ hr => XS.istore X132.here hx rfl (hb hby at_141) rfl (l' := #[.val (.int x0), .val (.int x1), .val (.int x2), .val (.int (1 : Int32)), .val (.ref r_V1_1), .val (.ref b126), .val (.int (0 : Int32)), .unset, .unset, .val (.int (0 : Int32)), .unset]) rfl (XS.iload X132.here hx rfl (hb hby at_143) rfl (XS.iconst X132.here hx rfl (hb hby at_145) hr))) ?_
    show own_Go p e below _ (T132.setTop (mkF m 146 #[.val (.int x0), .val (.int x1), .val (.int x2), .val (.int (1 : Int32)), .val (.ref r_V1_1), .val (.ref b126), .val (.int (0 : Int32)), .unset, .unset, .val (.int (0 : Int32)), .unset] [(.int (3 : Int32)), (.int (0 : Int32))]))
    have nz136 : (3 : Int32) ≠ (0 : Int32) := by decide
    refine own_go (fun _ hr => iremM X132 hx rfl (hb hby at_146) rfl nz136 hr) ?_
    show own_Go p e below _ (T132.setTop (mkF m 147 #[.val (.int x0), .val (.int x1), .val (.int x2), .val (.int (1 : Int32)), .val (.ref r_V1_1), .val (.ref b126), .val (.int (0 : Int32)), .unset, .unset, .val (.int (0 : Int32)), .unset] [(.int (0 : Int32))]))
    refine own_go (fun _ hr => XS.iconst X132.here hx rfl (hb hby at_147) (XS.isub X132.here hx rfl (hb hby at_148) rfl (XS.istore X132.here hx rfl (hb hby at_149) rfl (l' := #[.val (.int x0), .val (.int x1), .val (.int x2), .val (.int (1 : Int32)), .val (.ref r_V1_1), .val (.ref b126), .val (.int (0 : Int32)), .unset, .unset, .val (.int (0 : Int32)), .val (.int (-1 : Int32))]) rfl (XS.aload X132.here hx rfl (hb hby at_151) rfl rfl (XS.iload X132.here hx rfl (hb hby at_153) rfl (own_iaload X132 hx hZ e132 f132 (0 : Int32) (.int (10 : Int32)) ⟨by decide, by decide⟩ rfl rfl rfl (hb hby at_155) (XS.iload X132.here hx rfl (hb hby at_156) rfl (XS.iadd X132.here hx rfl (hb hby at_158) rfl (XS.istore X132.here hx rfl (hb hby at_159) rfl (l' := #[.val (.int x0), .val (.int x1), .val (.int x2), .val (.int (1 : Int32)), .val (.ref r_V1_1), .val (.ref b126), .val (.int (0 : Int32)), .val (.int (9 : Int32)), .unset, .val (.int (0 : Int32)), .val (.int (-1 : Int32))]) rfl (XS.iload X132.here hx rfl (hb hby at_161) rfl hr)))))))))) ?_
    show own_Go p e below _ (T132.setTop (mkF m 163 #[.val (.int x0), .val (.int x1), .val (.int x2), .val (.int (1 : Int32)), .val (.ref r_V1_1), .val (.ref b126), .val (.int (0 : Int32)), .val (.int (9 : Int32)), .unset, .val (.int (0 : Int32)), .val (.int (-1 : Int32))] [(.int (-1 : Int32))]))
    refine own_go (fun _ hr => XS.ifNo X132.here hx rfl (hb hby at_163) rfl ((if0 _ _).trans (feq (by decide)).1) (XS.iconst X132.here hx rfl (hb hby at_166) (XS.istore X132.here hx rfl (hb hby at_167) rfl (l' := #[.val (.int x0), .val (.int x1), .val (.int x2), .val (.int (1 : Int32)), .val (.ref r_V1_1), .val (.ref b126), .val (.int (0 : Int32)), .val (.int (9 : Int32)), .val (.int (0 : Int32)), .val (.int (0 : Int32)), .val (.int (-1 : Int32))]) rfl (XS.goto X132.here hx rfl (pc0 := 169) (pc' := 187) rfl (hb hby at_169) (by decide) (by decide) (XS.aload X132.here hx rfl (hb hby at_187) rfl rfl (XS.iload X132.here hx rfl (hb hby at_189) rfl hr)))))) ?_
    show own_Go p e below _ (T132.setTop (mkF m 191 #[.val (.int x0), .val (.int x1), .val (.int x2), .val (.int (1 : Int32)), .val (.ref r_V1_1), .val (.ref b126), .val (.int (0 : Int32)), .val (.int (9 : Int32)), .val (.int (0 : Int32)), .val (.int (0 : Int32)), .val (.int (-1 : Int32))] [(.int (9 : Int32)), (.ref r_V1_1)]))
    have f138 := (((((S_V1_1.ext E126).wr W129).wr W130).wr W131).wr W132)
    have Z139 := (Nat.le_trans (Nat.le_trans (Nat.le_trans (Nat.le_trans (Nat.le_trans Z0 E126.1) (Nat.le_of_eq W129.size.symm)) (Nat.le_of_eq W130.size.symm)) (Nat.le_of_eq W131.size.symm)) (Nat.le_of_eq W132.size.symm))
    have f140 := (((((E_V1_1.ext E126).wr W129).wr W130).wr W131).wr W132)
    refine own_cv X132 hx hZ hown (notFace_of_selects (args := #[]) (mvT hZ (hw _ (own_m 8 rfl)))) (hw _ (own_m 5 rfl)) (hw _ (own_m 6 rfl)) (hw _ (own_m 8 rfl)) (hw _ (own_m 7 rfl)) (hw _ (own_m 1 rfl)) (hw _ (own_m 9 rfl)) (by decide) f140 (rm := { frames := 0, cells := 0, slots := 0, locals := 0 }) (rm_a13_endsLine l Z a0 hw [] r_V1_1 h132 n0 Z139 f138) (by decide) (W := 0) (by decide) (by decide) (by decide) e132 (by rw [hml]; rfl) (argsL := [(.int (9 : Int32))]) (lenOf own_pd0 rfl) (rest := []) rfl rfl (Nat.le_of_eq rfl) (hb hby at_191) ?_
    intro _ T137 L137 X137 hQ137
    obtain ⟨rfl, N137q, e137⟩ := hQ137
    have N137 := Fr.app N132 N137q
    show own_Go p e below _ (T137.setTop (mkF m 194 #[.val (.int x0), .val (.int x1), .val (.int x2), .val (.int (1 : Int32)), .val (.ref r_V1_1), .val (.ref b126), .val (.int (0 : Int32)), .val (.int (9 : Int32)), .val (.int (0 : Int32)), .val (.int (0 : Int32)), .val (.int (-1 : Int32))] [(.int (0 : Int32))]))
    refine own_go (fun _ hr => XS.iload X137.here hx rfl (hb hby at_194) rfl (XS.icmpNo X137.here hx rfl (hb hby at_196) rfl (teq (by decide)).2 (XS.iconst X137.here hx rfl (hb hby at_199) (XS.goto X137.here hx rfl (pc0 := 200) (pc' := 204) rfl (hb hby at_200) (by decide) (by decide) hr)))) ?_
    show own_Go p e below _ (T137.setTop (mkF m 204 #[.val (.int x0), .val (.int x1), .val (.int x2), .val (.int (1 : Int32)), .val (.ref r_V1_1), .val (.ref b126), .val (.int (0 : Int32)), .val (.int (9 : Int32)), .val (.int (0 : Int32)), .val (.int (0 : Int32)), .val (.int (-1 : Int32))] [(.int (1 : Int32))]))
    exact own_retN X137 hx hlk Bd.returns (t := .boolean) (by simp) (hb hby at_204) (by decide) (by decide) ⟨rfl, N137⟩
  · rw [hk134]
    show own_Go p e below _ (T132.setTop (mkF m 63 #[.val (.int x0), .val (.int x1), .val (.int x2), .val (.int (1 : Int32)), .val (.ref r_V1_1), .val (.ref b126), .val (.int (1 : Int32)), .unset, .unset, .unset, .unset] []))
    refine own_go (fun _ hr => XS.iload X132.here hx rfl (hb hby at_63) rfl (XS.bipush X132.here hx rfl (hb hby at_65) (XS.icmpYes X132.here hx rfl (pc0 := 67) (pc' := 137) rfl (hb hby at_67) rfl (feq (by decide)).2 (by decide) (by decide) (XS.iload X132.here hx rfl (hb hby at_137) rfl (XS.iconst X132.here hx rfl (hb hby at_139) hr))))) ?_
    show own_Go p e below _ (T132.setTop (mkF m 140 #[.val (.int x0), .val (.int x1), .val (.int x2), .val (.int (1 : Int32)), .val (.ref r_V1_1), .val (.ref b126), .val (.int (1 : Int32)), .unset, .unset, .unset, .unset] [(.int (3 : Int32)), (.int (1 : Int32))]))
    have nz141 : (3 : Int32) ≠ (0 : Int32) := by decide
    refine own_go (fun _ hr => XS.idiv X132.here hx rfl (hb hby at_140) rfl nz141 hr) ?_
    show own_Go p e below _ (T132.setTop (mkF m 141 #[.val (.int x0), .val (.int x1), .val (.int x2), .val (.int (1 : Int32)), .val (.ref r_V1_1), .val (.ref b126), .val (.int (1 : Int32)), .unset, .unset, .unset, .unset] [(.int (0 : Int32))]))
    refine own_go (fun _ hr => XS.istore X132.here hx rfl (hb hby at_141) rfl (l' := #[.val (.int x0), .val (.int x1), .val (.int x2), .val (.int (1 : Int32)), .val (.ref r_V1_1), .val (.ref b126), .val (.int (1 : Int32)), .unset, .unset, .val (.int (0 : Int32)), .unset]) rfl (XS.iload X132.here hx rfl (hb hby at_143) rfl (XS.iconst X132.here hx rfl (hb hby at_145) hr))) ?_
    show own_Go p e below _ (T132.setTop (mkF m 146 #[.val (.int x0), .val (.int x1), .val (.int x2), .val (.int (1 : Int32)), .val (.ref r_V1_1), .val (.ref b126), .val (.int (1 : Int32)), .unset, .unset, .val (.int (0 : Int32)), .unset] [(.int (3 : Int32)), (.int (1 : Int32))]))
    have nz142 : (3 : Int32) ≠ (0 : Int32) := by decide
    refine own_go (fun _ hr => iremM X132 hx rfl (hb hby at_146) rfl nz142 hr) ?_
    show own_Go p e below _ (T132.setTop (mkF m 147 #[.val (.int x0), .val (.int x1), .val (.int x2), .val (.int (1 : Int32)), .val (.ref r_V1_1), .val (.ref b126), .val (.int (1 : Int32)), .unset, .unset, .val (.int (0 : Int32)), .unset] [(.int (1 : Int32))]))
    refine own_go (fun _ hr => XS.iconst X132.here hx rfl (hb hby at_147) (XS.isub X132.here hx rfl (hb hby at_148) rfl (XS.istore X132.here hx rfl (hb hby at_149) rfl (l' := #[.val (.int x0), .val (.int x1), .val (.int x2), .val (.int (1 : Int32)), .val (.ref r_V1_1), .val (.ref b126), .val (.int (1 : Int32)), .unset, .unset, .val (.int (0 : Int32)), .val (.int (0 : Int32))]) rfl (XS.aload X132.here hx rfl (hb hby at_151) rfl rfl (XS.iload X132.here hx rfl (hb hby at_153) rfl (own_iaload X132 hx hZ e132 f132 (0 : Int32) (.int (10 : Int32)) ⟨by decide, by decide⟩ rfl rfl rfl (hb hby at_155) (XS.iload X132.here hx rfl (hb hby at_156) rfl (XS.iadd X132.here hx rfl (hb hby at_158) rfl (XS.istore X132.here hx rfl (hb hby at_159) rfl (l' := #[.val (.int x0), .val (.int x1), .val (.int x2), .val (.int (1 : Int32)), .val (.ref r_V1_1), .val (.ref b126), .val (.int (1 : Int32)), .val (.int (10 : Int32)), .unset, .val (.int (0 : Int32)), .val (.int (0 : Int32))]) rfl (XS.iload X132.here hx rfl (hb hby at_161) rfl hr)))))))))) ?_
    show own_Go p e below _ (T132.setTop (mkF m 163 #[.val (.int x0), .val (.int x1), .val (.int x2), .val (.int (1 : Int32)), .val (.ref r_V1_1), .val (.ref b126), .val (.int (1 : Int32)), .val (.int (10 : Int32)), .unset, .val (.int (0 : Int32)), .val (.int (0 : Int32))] [(.int (0 : Int32))]))
    refine own_go (fun _ hr => XS.ifYes X132.here hx rfl (pc0 := 163) (pc' := 172) rfl (hb hby at_163) rfl ((if0 _ _).trans (teq (by decide)).1) (by decide) (by decide) (XS.iload X132.here hx rfl (hb hby at_172) rfl (XS.iconst X132.here hx rfl (hb hby at_174) (XS.icmpNo X132.here hx rfl (hb hby at_175) rfl (tlt (by decide)).2.1 (XS.iconst X132.here hx rfl (hb hby at_178) (XS.istore X132.here hx rfl (hb hby at_179) rfl (l' := #[.val (.int x0), .val (.int x1), .val (.int x2), .val (.int (1 : Int32)), .val (.ref r_V1_1), .val (.ref b126), .val (.int (1 : Int32)), .val (.int (10 : Int32)), .val (.int (1 : Int32)), .val (.int (0 : Int32)), .val (.int (0 : Int32))]) rfl (XS.goto X132.here hx rfl (pc0 := 181) (pc' := 187) rfl (hb hby at_181) (by decide) (by decide) (XS.aload X132.here hx rfl (hb hby at_187) rfl rfl (XS.iload X132.here hx rfl (hb hby at_189) rfl hr))))))))) ?_
    show own_Go p e below _ (T132.setTop (mkF m 191 #[.val (.int x0), .val (.int x1), .val (.int x2), .val (.int (1 : Int32)), .val (.ref r_V1_1), .val (.ref b126), .val (.int (1 : Int32)), .val (.int (10 : Int32)), .val (.int (1 : Int32)), .val (.int (0 : Int32)), .val (.int (0 : Int32))] [(.int (10 : Int32)), (.ref r_V1_1)]))
    have Z144 := (Nat.le_trans (Nat.le_trans (Nat.le_trans (Nat.le_trans (Nat.le_trans Z0 E126.1) (Nat.le_of_eq W129.size.symm)) (Nat.le_of_eq W130.size.symm)) (Nat.le_of_eq W131.size.symm)) (Nat.le_of_eq W132.size.symm))
    have f145 := (((((E_V1_1.ext E126).wr W129).wr W130).wr W131).wr W132)
    refine own_cv X132 hx hZ hown (notFace_of_selects (args := #[]) (mvT hZ (hw _ (own_m 8 rfl)))) (hw _ (own_m 5 rfl)) (hw _ (own_m 6 rfl)) (hw _ (own_m 8 rfl)) (hw _ (own_m 7 rfl)) (hw _ (own_m 1 rfl)) (hw _ (own_m 9 rfl)) (by decide) f145 (rm := { frames := 0, cells := 0, slots := 0, locals := 0 }) (rm_a14_endsLine l Z a0 hw [] r_V1_1 h132 n0 Z144 ) (by decide) (W := 0) (by decide) (by decide) (by decide) e132 (by rw [hml]; rfl) (argsL := [(.int (10 : Int32))]) (lenOf own_pd0 rfl) (rest := []) rfl rfl (Nat.le_of_eq rfl) (hb hby at_191) ?_
    intro _ T143 L143 X143 hQ143
    obtain ⟨rfl, N143q, e143⟩ := hQ143
    have N143 := Fr.app N132 N143q
    show own_Go p e below _ (T143.setTop (mkF m 194 #[.val (.int x0), .val (.int x1), .val (.int x2), .val (.int (1 : Int32)), .val (.ref r_V1_1), .val (.ref b126), .val (.int (1 : Int32)), .val (.int (10 : Int32)), .val (.int (1 : Int32)), .val (.int (0 : Int32)), .val (.int (0 : Int32))] [(.int (1 : Int32))]))
    refine own_go (fun _ hr => XS.iload X143.here hx rfl (hb hby at_194) rfl (XS.icmpNo X143.here hx rfl (hb hby at_196) rfl (teq (by decide)).2 (XS.iconst X143.here hx rfl (hb hby at_199) (XS.goto X143.here hx rfl (pc0 := 200) (pc' := 204) rfl (hb hby at_200) (by decide) (by decide) hr)))) ?_
    show own_Go p e below _ (T143.setTop (mkF m 204 #[.val (.int x0), .val (.int x1), .val (.int x2), .val (.int (1 : Int32)), .val (.ref r_V1_1), .val (.ref b126), .val (.int (1 : Int32)), .val (.int (10 : Int32)), .val (.int (1 : Int32)), .val (.int (0 : Int32)), .val (.int (0 : Int32))] [(.int (1 : Int32))]))
    exact own_retN X143 hx hlk Bd.returns (t := .boolean) (by simp) (hb hby at_204) (by decide) (by decide) ⟨rfl, N143⟩
  · rw [hk134]
    show own_Go p e below _ (T132.setTop (mkF m 63 #[.val (.int x0), .val (.int x1), .val (.int x2), .val (.int (1 : Int32)), .val (.ref r_V1_1), .val (.ref b126), .val (.int (2 : Int32)), .unset, .unset, .unset, .unset] []))
    refine own_go (fun _ hr => XS.iload X132.here hx rfl (hb hby at_63) rfl (XS.bipush X132.here hx rfl (hb hby at_65) (XS.icmpYes X132.here hx rfl (pc0 := 67) (pc' := 137) rfl (hb hby at_67) rfl (feq (by decide)).2 (by decide) (by decide) (XS.iload X132.here hx rfl (hb hby at_137) rfl (XS.iconst X132.here hx rfl (hb hby at_139) hr))))) ?_
    show own_Go p e below _ (T132.setTop (mkF m 140 #[.val (.int x0), .val (.int x1), .val (.int x2), .val (.int (1 : Int32)), .val (.ref r_V1_1), .val (.ref b126), .val (.int (2 : Int32)), .unset, .unset, .unset, .unset] [(.int (3 : Int32)), (.int (2 : Int32))]))
    have nz146 : (3 : Int32) ≠ (0 : Int32) := by decide
    refine own_go (fun _ hr => XS.idiv X132.here hx rfl (hb hby at_140) rfl nz146 hr) ?_
    show own_Go p e below _ (T132.setTop (mkF m 141 #[.val (.int x0), .val (.int x1), .val (.int x2), .val (.int (1 : Int32)), .val (.ref r_V1_1), .val (.ref b126), .val (.int (2 : Int32)), .unset, .unset, .unset, .unset] [(.int (0 : Int32))]))
    refine own_go (fun _ hr => XS.istore X132.here hx rfl (hb hby at_141) rfl (l' := #[.val (.int x0), .val (.int x1), .val (.int x2), .val (.int (1 : Int32)), .val (.ref r_V1_1), .val (.ref b126), .val (.int (2 : Int32)), .unset, .unset, .val (.int (0 : Int32)), .unset]) rfl (XS.iload X132.here hx rfl (hb hby at_143) rfl (XS.iconst X132.here hx rfl (hb hby at_145) hr))) ?_
    show own_Go p e below _ (T132.setTop (mkF m 146 #[.val (.int x0), .val (.int x1), .val (.int x2), .val (.int (1 : Int32)), .val (.ref r_V1_1), .val (.ref b126), .val (.int (2 : Int32)), .unset, .unset, .val (.int (0 : Int32)), .unset] [(.int (3 : Int32)), (.int (2 : Int32))]))
    have nz147 : (3 : Int32) ≠ (0 : Int32) := by decide
    refine own_go (fun _ hr => iremM X132 hx rfl (hb hby at_146) rfl nz147 hr) ?_
    show own_Go p e below _ (T132.setTop (mkF m 147 #[.val (.int x0), .val (.int x1), .val (.int x2), .val (.int (1 : Int32)), .val (.ref r_V1_1), .val (.ref b126), .val (.int (2 : Int32)), .unset, .unset, .val (.int (0 : Int32)), .unset] [(.int (2 : Int32))]))
    refine own_go (fun _ hr => XS.iconst X132.here hx rfl (hb hby at_147) (XS.isub X132.here hx rfl (hb hby at_148) rfl (XS.istore X132.here hx rfl (hb hby at_149) rfl (l' := #[.val (.int x0), .val (.int x1), .val (.int x2), .val (.int (1 : Int32)), .val (.ref r_V1_1), .val (.ref b126), .val (.int (2 : Int32)), .unset, .unset, .val (.int (0 : Int32)), .val (.int (1 : Int32))]) rfl (XS.aload X132.here hx rfl (hb hby at_151) rfl rfl (XS.iload X132.here hx rfl (hb hby at_153) rfl (own_iaload X132 hx hZ e132 f132 (0 : Int32) (.int (10 : Int32)) ⟨by decide, by decide⟩ rfl rfl rfl (hb hby at_155) (XS.iload X132.here hx rfl (hb hby at_156) rfl (XS.iadd X132.here hx rfl (hb hby at_158) rfl (XS.istore X132.here hx rfl (hb hby at_159) rfl (l' := #[.val (.int x0), .val (.int x1), .val (.int x2), .val (.int (1 : Int32)), .val (.ref r_V1_1), .val (.ref b126), .val (.int (2 : Int32)), .val (.int (11 : Int32)), .unset, .val (.int (0 : Int32)), .val (.int (1 : Int32))]) rfl (XS.iload X132.here hx rfl (hb hby at_161) rfl hr)))))))))) ?_
    show own_Go p e below _ (T132.setTop (mkF m 163 #[.val (.int x0), .val (.int x1), .val (.int x2), .val (.int (1 : Int32)), .val (.ref r_V1_1), .val (.ref b126), .val (.int (2 : Int32)), .val (.int (11 : Int32)), .unset, .val (.int (0 : Int32)), .val (.int (1 : Int32))] [(.int (1 : Int32))]))
    refine own_go (fun _ hr => XS.ifNo X132.here hx rfl (hb hby at_163) rfl ((if0 _ _).trans (feq (by decide)).1) (XS.iconst X132.here hx rfl (hb hby at_166) (XS.istore X132.here hx rfl (hb hby at_167) rfl (l' := #[.val (.int x0), .val (.int x1), .val (.int x2), .val (.int (1 : Int32)), .val (.ref r_V1_1), .val (.ref b126), .val (.int (2 : Int32)), .val (.int (11 : Int32)), .val (.int (0 : Int32)), .val (.int (0 : Int32)), .val (.int (1 : Int32))]) rfl (XS.goto X132.here hx rfl (pc0 := 169) (pc' := 187) rfl (hb hby at_169) (by decide) (by decide) (XS.aload X132.here hx rfl (hb hby at_187) rfl rfl (XS.iload X132.here hx rfl (hb hby at_189) rfl hr)))))) ?_
    show own_Go p e below _ (T132.setTop (mkF m 191 #[.val (.int x0), .val (.int x1), .val (.int x2), .val (.int (1 : Int32)), .val (.ref r_V1_1), .val (.ref b126), .val (.int (2 : Int32)), .val (.int (11 : Int32)), .val (.int (0 : Int32)), .val (.int (0 : Int32)), .val (.int (1 : Int32))] [(.int (11 : Int32)), (.ref r_V1_1)]))
    have f149 := (((((S_V1_1.ext E126).wr W129).wr W130).wr W131).wr W132)
    have Z150 := (Nat.le_trans (Nat.le_trans (Nat.le_trans (Nat.le_trans (Nat.le_trans Z0 E126.1) (Nat.le_of_eq W129.size.symm)) (Nat.le_of_eq W130.size.symm)) (Nat.le_of_eq W131.size.symm)) (Nat.le_of_eq W132.size.symm))
    have f151 := (((((E_V1_1.ext E126).wr W129).wr W130).wr W131).wr W132)
    refine own_cv X132 hx hZ hown (notFace_of_selects (args := #[]) (mvT hZ (hw _ (own_m 8 rfl)))) (hw _ (own_m 5 rfl)) (hw _ (own_m 6 rfl)) (hw _ (own_m 8 rfl)) (hw _ (own_m 7 rfl)) (hw _ (own_m 1 rfl)) (hw _ (own_m 9 rfl)) (by decide) f151 (rm := { frames := 0, cells := 0, slots := 0, locals := 0 }) (rm_a15_endsLine l Z a0 hw [] r_V1_1 h132 n0 Z150 f149) (by decide) (W := 0) (by decide) (by decide) (by decide) e132 (by rw [hml]; rfl) (argsL := [(.int (11 : Int32))]) (lenOf own_pd0 rfl) (rest := []) rfl rfl (Nat.le_of_eq rfl) (hb hby at_191) ?_
    intro _ T148 L148 X148 hQ148
    obtain ⟨rfl, N148q, e148⟩ := hQ148
    have N148 := Fr.app N132 N148q
    show own_Go p e below _ (T148.setTop (mkF m 194 #[.val (.int x0), .val (.int x1), .val (.int x2), .val (.int (1 : Int32)), .val (.ref r_V1_1), .val (.ref b126), .val (.int (2 : Int32)), .val (.int (11 : Int32)), .val (.int (0 : Int32)), .val (.int (0 : Int32)), .val (.int (1 : Int32))] [(.int (0 : Int32))]))
    refine own_go (fun _ hr => XS.iload X148.here hx rfl (hb hby at_194) rfl (XS.icmpNo X148.here hx rfl (hb hby at_196) rfl (teq (by decide)).2 (XS.iconst X148.here hx rfl (hb hby at_199) (XS.goto X148.here hx rfl (pc0 := 200) (pc' := 204) rfl (hb hby at_200) (by decide) (by decide) hr)))) ?_
    show own_Go p e below _ (T148.setTop (mkF m 204 #[.val (.int x0), .val (.int x1), .val (.int x2), .val (.int (1 : Int32)), .val (.ref r_V1_1), .val (.ref b126), .val (.int (2 : Int32)), .val (.int (11 : Int32)), .val (.int (0 : Int32)), .val (.int (0 : Int32)), .val (.int (1 : Int32))] [(.int (1 : Int32))]))
    exact own_retN X148 hx hlk Bd.returns (t := .boolean) (by simp) (hb hby at_204) (by decide) (by decide) ⟨rfl, N148⟩
  · rw [hk134]
    show own_Go p e below _ (T132.setTop (mkF m 63 #[.val (.int x0), .val (.int x1), .val (.int x2), .val (.int (1 : Int32)), .val (.ref r_V1_1), .val (.ref b126), .val (.int (3 : Int32)), .unset, .unset, .unset, .unset] []))
    refine own_go (fun _ hr => XS.iload X132.here hx rfl (hb hby at_63) rfl (XS.bipush X132.here hx rfl (hb hby at_65) (XS.icmpYes X132.here hx rfl (pc0 := 67) (pc' := 137) rfl (hb hby at_67) rfl (feq (by decide)).2 (by decide) (by decide) (XS.iload X132.here hx rfl (hb hby at_137) rfl (XS.iconst X132.here hx rfl (hb hby at_139) hr))))) ?_
    show own_Go p e below _ (T132.setTop (mkF m 140 #[.val (.int x0), .val (.int x1), .val (.int x2), .val (.int (1 : Int32)), .val (.ref r_V1_1), .val (.ref b126), .val (.int (3 : Int32)), .unset, .unset, .unset, .unset] [(.int (3 : Int32)), (.int (3 : Int32))]))
    have nz152 : (3 : Int32) ≠ (0 : Int32) := by decide
    refine own_go (fun _ hr => XS.idiv X132.here hx rfl (hb hby at_140) rfl nz152 hr) ?_
    show own_Go p e below _ (T132.setTop (mkF m 141 #[.val (.int x0), .val (.int x1), .val (.int x2), .val (.int (1 : Int32)), .val (.ref r_V1_1), .val (.ref b126), .val (.int (3 : Int32)), .unset, .unset, .unset, .unset] [(.int (1 : Int32))]))
    refine own_go (fun _ hr => XS.istore X132.here hx rfl (hb hby at_141) rfl (l' := #[.val (.int x0), .val (.int x1), .val (.int x2), .val (.int (1 : Int32)), .val (.ref r_V1_1), .val (.ref b126), .val (.int (3 : Int32)), .unset, .unset, .val (.int (1 : Int32)), .unset]) rfl (XS.iload X132.here hx rfl (hb hby at_143) rfl (XS.iconst X132.here hx rfl (hb hby at_145) hr))) ?_
    show own_Go p e below _ (T132.setTop (mkF m 146 #[.val (.int x0), .val (.int x1), .val (.int x2), .val (.int (1 : Int32)), .val (.ref r_V1_1), .val (.ref b126), .val (.int (3 : Int32)), .unset, .unset, .val (.int (1 : Int32)), .unset] [(.int (3 : Int32)), (.int (3 : Int32))]))
    have nz153 : (3 : Int32) ≠ (0 : Int32) := by decide
    refine own_go (fun _ hr => iremM X132 hx rfl (hb hby at_146) rfl nz153 hr) ?_
    show own_Go p e below _ (T132.setTop (mkF m 147 #[.val (.int x0), .val (.int x1), .val (.int x2), .val (.int (1 : Int32)), .val (.ref r_V1_1), .val (.ref b126), .val (.int (3 : Int32)), .unset, .unset, .val (.int (1 : Int32)), .unset] [(.int (0 : Int32))]))
    refine own_go (fun _ hr => XS.iconst X132.here hx rfl (hb hby at_147) (XS.isub X132.here hx rfl (hb hby at_148) rfl (XS.istore X132.here hx rfl (hb hby at_149) rfl (l' := #[.val (.int x0), .val (.int x1), .val (.int x2), .val (.int (1 : Int32)), .val (.ref r_V1_1), .val (.ref b126), .val (.int (3 : Int32)), .unset, .unset, .val (.int (1 : Int32)), .val (.int (-1 : Int32))]) rfl (XS.aload X132.here hx rfl (hb hby at_151) rfl rfl (XS.iload X132.here hx rfl (hb hby at_153) rfl (own_iaload X132 hx hZ e132 f132 (1 : Int32) (.int (13 : Int32)) ⟨by decide, by decide⟩ rfl rfl rfl (hb hby at_155) (XS.iload X132.here hx rfl (hb hby at_156) rfl (XS.iadd X132.here hx rfl (hb hby at_158) rfl (XS.istore X132.here hx rfl (hb hby at_159) rfl (l' := #[.val (.int x0), .val (.int x1), .val (.int x2), .val (.int (1 : Int32)), .val (.ref r_V1_1), .val (.ref b126), .val (.int (3 : Int32)), .val (.int (12 : Int32)), .unset, .val (.int (1 : Int32)), .val (.int (-1 : Int32))]) rfl (XS.iload X132.here hx rfl (hb hby at_161) rfl hr)))))))))) ?_
    show own_Go p e below _ (T132.setTop (mkF m 163 #[.val (.int x0), .val (.int x1), .val (.int x2), .val (.int (1 : Int32)), .val (.ref r_V1_1), .val (.ref b126), .val (.int (3 : Int32)), .val (.int (12 : Int32)), .unset, .val (.int (1 : Int32)), .val (.int (-1 : Int32))] [(.int (-1 : Int32))]))
    refine own_go (fun _ hr => XS.ifNo X132.here hx rfl (hb hby at_163) rfl ((if0 _ _).trans (feq (by decide)).1) (XS.iconst X132.here hx rfl (hb hby at_166) (XS.istore X132.here hx rfl (hb hby at_167) rfl (l' := #[.val (.int x0), .val (.int x1), .val (.int x2), .val (.int (1 : Int32)), .val (.ref r_V1_1), .val (.ref b126), .val (.int (3 : Int32)), .val (.int (12 : Int32)), .val (.int (0 : Int32)), .val (.int (1 : Int32)), .val (.int (-1 : Int32))]) rfl (XS.goto X132.here hx rfl (pc0 := 169) (pc' := 187) rfl (hb hby at_169) (by decide) (by decide) (XS.aload X132.here hx rfl (hb hby at_187) rfl rfl (XS.iload X132.here hx rfl (hb hby at_189) rfl hr)))))) ?_
    show own_Go p e below _ (T132.setTop (mkF m 191 #[.val (.int x0), .val (.int x1), .val (.int x2), .val (.int (1 : Int32)), .val (.ref r_V1_1), .val (.ref b126), .val (.int (3 : Int32)), .val (.int (12 : Int32)), .val (.int (0 : Int32)), .val (.int (1 : Int32)), .val (.int (-1 : Int32))] [(.int (12 : Int32)), (.ref r_V1_1)]))
    have f155 := (((((S_V1_1.ext E126).wr W129).wr W130).wr W131).wr W132)
    have Z156 := (Nat.le_trans (Nat.le_trans (Nat.le_trans (Nat.le_trans (Nat.le_trans Z0 E126.1) (Nat.le_of_eq W129.size.symm)) (Nat.le_of_eq W130.size.symm)) (Nat.le_of_eq W131.size.symm)) (Nat.le_of_eq W132.size.symm))
    have f157 := (((((E_V1_1.ext E126).wr W129).wr W130).wr W131).wr W132)
    refine own_cv X132 hx hZ hown (notFace_of_selects (args := #[]) (mvT hZ (hw _ (own_m 8 rfl)))) (hw _ (own_m 5 rfl)) (hw _ (own_m 6 rfl)) (hw _ (own_m 8 rfl)) (hw _ (own_m 7 rfl)) (hw _ (own_m 1 rfl)) (hw _ (own_m 9 rfl)) (by decide) f157 (rm := { frames := 0, cells := 0, slots := 0, locals := 0 }) (rm_a16_endsLine l Z a0 hw [] r_V1_1 h132 n0 Z156 f155) (by decide) (W := 0) (by decide) (by decide) (by decide) e132 (by rw [hml]; rfl) (argsL := [(.int (12 : Int32))]) (lenOf own_pd0 rfl) (rest := []) rfl rfl (Nat.le_of_eq rfl) (hb hby at_191) ?_
    intro _ T154 L154 X154 hQ154
    obtain ⟨rfl, N154q, e154⟩ := hQ154
    have N154 := Fr.app N132 N154q
    show own_Go p e below _ (T154.setTop (mkF m 194 #[.val (.int x0), .val (.int x1), .val (.int x2), .val (.int (1 : Int32)), .val (.ref r_V1_1), .val (.ref b126), .val (.int (3 : Int32)), .val (.int (12 : Int32)), .val (.int (0 : Int32)), .val (.int (1 : Int32)), .val (.int (-1 : Int32))] [(.int (0 : Int32))]))
    refine own_go (fun _ hr => XS.iload X154.here hx rfl (hb hby at_194) rfl (XS.icmpNo X154.here hx rfl (hb hby at_196) rfl (teq (by decide)).2 (XS.iconst X154.here hx rfl (hb hby at_199) (XS.goto X154.here hx rfl (pc0 := 200) (pc' := 204) rfl (hb hby at_200) (by decide) (by decide) hr)))) ?_
    show own_Go p e below _ (T154.setTop (mkF m 204 #[.val (.int x0), .val (.int x1), .val (.int x2), .val (.int (1 : Int32)), .val (.ref r_V1_1), .val (.ref b126), .val (.int (3 : Int32)), .val (.int (12 : Int32)), .val (.int (0 : Int32)), .val (.int (1 : Int32)), .val (.int (-1 : Int32))] [(.int (1 : Int32))]))
    exact own_retN X154 hx hlk Bd.returns (t := .boolean) (by simp) (hb hby at_204) (by decide) (by decide) ⟨rfl, N154⟩
  · rw [hk134]
    show own_Go p e below _ (T132.setTop (mkF m 63 #[.val (.int x0), .val (.int x1), .val (.int x2), .val (.int (1 : Int32)), .val (.ref r_V1_1), .val (.ref b126), .val (.int (4 : Int32)), .unset, .unset, .unset, .unset] []))
    refine own_go (fun _ hr => XS.iload X132.here hx rfl (hb hby at_63) rfl (XS.bipush X132.here hx rfl (hb hby at_65) (XS.icmpYes X132.here hx rfl (pc0 := 67) (pc' := 137) rfl (hb hby at_67) rfl (feq (by decide)).2 (by decide) (by decide) (XS.iload X132.here hx rfl (hb hby at_137) rfl (XS.iconst X132.here hx rfl (hb hby at_139) hr))))) ?_
    show own_Go p e below _ (T132.setTop (mkF m 140 #[.val (.int x0), .val (.int x1), .val (.int x2), .val (.int (1 : Int32)), .val (.ref r_V1_1), .val (.ref b126), .val (.int (4 : Int32)), .unset, .unset, .unset, .unset] [(.int (3 : Int32)), (.int (4 : Int32))]))
    have nz158 : (3 : Int32) ≠ (0 : Int32) := by decide
    refine own_go (fun _ hr => XS.idiv X132.here hx rfl (hb hby at_140) rfl nz158 hr) ?_
    show own_Go p e below _ (T132.setTop (mkF m 141 #[.val (.int x0), .val (.int x1), .val (.int x2), .val (.int (1 : Int32)), .val (.ref r_V1_1), .val (.ref b126), .val (.int (4 : Int32)), .unset, .unset, .unset, .unset] [(.int (1 : Int32))]))
    refine own_go (fun _ hr => XS.istore X132.here hx rfl (hb hby at_141) rfl (l' := #[.val (.int x0), .val (.int x1), .val (.int x2), .val (.int (1 : Int32)), .val (.ref r_V1_1), .val (.ref b126), .val (.int (4 : Int32)), .unset, .unset, .val (.int (1 : Int32)), .unset]) rfl (XS.iload X132.here hx rfl (hb hby at_143) rfl (XS.iconst X132.here hx rfl (hb hby at_145) hr))) ?_
    show own_Go p e below _ (T132.setTop (mkF m 146 #[.val (.int x0), .val (.int x1), .val (.int x2), .val (.int (1 : Int32)), .val (.ref r_V1_1), .val (.ref b126), .val (.int (4 : Int32)), .unset, .unset, .val (.int (1 : Int32)), .unset] [(.int (3 : Int32)), (.int (4 : Int32))]))
    have nz159 : (3 : Int32) ≠ (0 : Int32) := by decide
    refine own_go (fun _ hr => iremM X132 hx rfl (hb hby at_146) rfl nz159 hr) ?_
    show own_Go p e below _ (T132.setTop (mkF m 147 #[.val (.int x0), .val (.int x1), .val (.int x2), .val (.int (1 : Int32)), .val (.ref r_V1_1), .val (.ref b126), .val (.int (4 : Int32)), .unset, .unset, .val (.int (1 : Int32)), .unset] [(.int (1 : Int32))]))
    refine own_go (fun _ hr => XS.iconst X132.here hx rfl (hb hby at_147) (XS.isub X132.here hx rfl (hb hby at_148) rfl (XS.istore X132.here hx rfl (hb hby at_149) rfl (l' := #[.val (.int x0), .val (.int x1), .val (.int x2), .val (.int (1 : Int32)), .val (.ref r_V1_1), .val (.ref b126), .val (.int (4 : Int32)), .unset, .unset, .val (.int (1 : Int32)), .val (.int (0 : Int32))]) rfl (XS.aload X132.here hx rfl (hb hby at_151) rfl rfl (XS.iload X132.here hx rfl (hb hby at_153) rfl (own_iaload X132 hx hZ e132 f132 (1 : Int32) (.int (13 : Int32)) ⟨by decide, by decide⟩ rfl rfl rfl (hb hby at_155) (XS.iload X132.here hx rfl (hb hby at_156) rfl (XS.iadd X132.here hx rfl (hb hby at_158) rfl (XS.istore X132.here hx rfl (hb hby at_159) rfl (l' := #[.val (.int x0), .val (.int x1), .val (.int x2), .val (.int (1 : Int32)), .val (.ref r_V1_1), .val (.ref b126), .val (.int (4 : Int32)), .val (.int (13 : Int32)), .unset, .val (.int (1 : Int32)), .val (.int (0 : Int32))]) rfl (XS.iload X132.here hx rfl (hb hby at_161) rfl hr)))))))))) ?_
    show own_Go p e below _ (T132.setTop (mkF m 163 #[.val (.int x0), .val (.int x1), .val (.int x2), .val (.int (1 : Int32)), .val (.ref r_V1_1), .val (.ref b126), .val (.int (4 : Int32)), .val (.int (13 : Int32)), .unset, .val (.int (1 : Int32)), .val (.int (0 : Int32))] [(.int (0 : Int32))]))
    refine own_go (fun _ hr => XS.ifYes X132.here hx rfl (pc0 := 163) (pc' := 172) rfl (hb hby at_163) rfl ((if0 _ _).trans (teq (by decide)).1) (by decide) (by decide) (XS.iload X132.here hx rfl (hb hby at_172) rfl (XS.iconst X132.here hx rfl (hb hby at_174) (XS.icmpNo X132.here hx rfl (hb hby at_175) rfl (tlt (by decide)).2.1 (XS.iconst X132.here hx rfl (hb hby at_178) (XS.istore X132.here hx rfl (hb hby at_179) rfl (l' := #[.val (.int x0), .val (.int x1), .val (.int x2), .val (.int (1 : Int32)), .val (.ref r_V1_1), .val (.ref b126), .val (.int (4 : Int32)), .val (.int (13 : Int32)), .val (.int (1 : Int32)), .val (.int (1 : Int32)), .val (.int (0 : Int32))]) rfl (XS.goto X132.here hx rfl (pc0 := 181) (pc' := 187) rfl (hb hby at_181) (by decide) (by decide) (XS.aload X132.here hx rfl (hb hby at_187) rfl rfl (XS.iload X132.here hx rfl (hb hby at_189) rfl hr))))))))) ?_
    show own_Go p e below _ (T132.setTop (mkF m 191 #[.val (.int x0), .val (.int x1), .val (.int x2), .val (.int (1 : Int32)), .val (.ref r_V1_1), .val (.ref b126), .val (.int (4 : Int32)), .val (.int (13 : Int32)), .val (.int (1 : Int32)), .val (.int (1 : Int32)), .val (.int (0 : Int32))] [(.int (13 : Int32)), (.ref r_V1_1)]))
    have Z161 := (Nat.le_trans (Nat.le_trans (Nat.le_trans (Nat.le_trans (Nat.le_trans Z0 E126.1) (Nat.le_of_eq W129.size.symm)) (Nat.le_of_eq W130.size.symm)) (Nat.le_of_eq W131.size.symm)) (Nat.le_of_eq W132.size.symm))
    have f162 := (((((E_V1_1.ext E126).wr W129).wr W130).wr W131).wr W132)
    refine own_cv X132 hx hZ hown (notFace_of_selects (args := #[]) (mvT hZ (hw _ (own_m 8 rfl)))) (hw _ (own_m 5 rfl)) (hw _ (own_m 6 rfl)) (hw _ (own_m 8 rfl)) (hw _ (own_m 7 rfl)) (hw _ (own_m 1 rfl)) (hw _ (own_m 9 rfl)) (by decide) f162 (rm := { frames := 0, cells := 0, slots := 0, locals := 0 }) (rm_a17_endsLine l Z a0 hw [] r_V1_1 h132 n0 Z161 ) (by decide) (W := 0) (by decide) (by decide) (by decide) e132 (by rw [hml]; rfl) (argsL := [(.int (13 : Int32))]) (lenOf own_pd0 rfl) (rest := []) rfl rfl (Nat.le_of_eq rfl) (hb hby at_191) ?_
    intro _ T160 L160 X160 hQ160
    obtain ⟨rfl, N160q, e160⟩ := hQ160
    have N160 := Fr.app N132 N160q
    show own_Go p e below _ (T160.setTop (mkF m 194 #[.val (.int x0), .val (.int x1), .val (.int x2), .val (.int (1 : Int32)), .val (.ref r_V1_1), .val (.ref b126), .val (.int (4 : Int32)), .val (.int (13 : Int32)), .val (.int (1 : Int32)), .val (.int (1 : Int32)), .val (.int (0 : Int32))] [(.int (1 : Int32))]))
    refine own_go (fun _ hr => XS.iload X160.here hx rfl (hb hby at_194) rfl (XS.icmpNo X160.here hx rfl (hb hby at_196) rfl (teq (by decide)).2 (XS.iconst X160.here hx rfl (hb hby at_199) (XS.goto X160.here hx rfl (pc0 := 200) (pc' := 204) rfl (hb hby at_200) (by decide) (by decide) hr)))) ?_
    show own_Go p e below _ (T160.setTop (mkF m 204 #[.val (.int x0), .val (.int x1), .val (.int x2), .val (.int (1 : Int32)), .val (.ref r_V1_1), .val (.ref b126), .val (.int (4 : Int32)), .val (.int (13 : Int32)), .val (.int (1 : Int32)), .val (.int (1 : Int32)), .val (.int (0 : Int32))] [(.int (1 : Int32))]))
    exact own_retN X160 hx hlk Bd.returns (t := .boolean) (by simp) (hb hby at_204) (by decide) (by decide) ⟨rfl, N160⟩
  · rw [hk134]
    show own_Go p e below _ (T132.setTop (mkF m 63 #[.val (.int x0), .val (.int x1), .val (.int x2), .val (.int (1 : Int32)), .val (.ref r_V1_1), .val (.ref b126), .val (.int (5 : Int32)), .unset, .unset, .unset, .unset] []))
    refine own_go (fun _ hr => XS.iload X132.here hx rfl (hb hby at_63) rfl (XS.bipush X132.here hx rfl (hb hby at_65) (XS.icmpYes X132.here hx rfl (pc0 := 67) (pc' := 137) rfl (hb hby at_67) rfl (feq (by decide)).2 (by decide) (by decide) (XS.iload X132.here hx rfl (hb hby at_137) rfl (XS.iconst X132.here hx rfl (hb hby at_139) hr))))) ?_
    show own_Go p e below _ (T132.setTop (mkF m 140 #[.val (.int x0), .val (.int x1), .val (.int x2), .val (.int (1 : Int32)), .val (.ref r_V1_1), .val (.ref b126), .val (.int (5 : Int32)), .unset, .unset, .unset, .unset] [(.int (3 : Int32)), (.int (5 : Int32))]))
    have nz163 : (3 : Int32) ≠ (0 : Int32) := by decide
    refine own_go (fun _ hr => XS.idiv X132.here hx rfl (hb hby at_140) rfl nz163 hr) ?_
    show own_Go p e below _ (T132.setTop (mkF m 141 #[.val (.int x0), .val (.int x1), .val (.int x2), .val (.int (1 : Int32)), .val (.ref r_V1_1), .val (.ref b126), .val (.int (5 : Int32)), .unset, .unset, .unset, .unset] [(.int (1 : Int32))]))
    refine own_go (fun _ hr => XS.istore X132.here hx rfl (hb hby at_141) rfl (l' := #[.val (.int x0), .val (.int x1), .val (.int x2), .val (.int (1 : Int32)), .val (.ref r_V1_1), .val (.ref b126), .val (.int (5 : Int32)), .unset, .unset, .val (.int (1 : Int32)), .unset]) rfl (XS.iload X132.here hx rfl (hb hby at_143) rfl (XS.iconst X132.here hx rfl (hb hby at_145) hr))) ?_
    show own_Go p e below _ (T132.setTop (mkF m 146 #[.val (.int x0), .val (.int x1), .val (.int x2), .val (.int (1 : Int32)), .val (.ref r_V1_1), .val (.ref b126), .val (.int (5 : Int32)), .unset, .unset, .val (.int (1 : Int32)), .unset] [(.int (3 : Int32)), (.int (5 : Int32))]))
    have nz164 : (3 : Int32) ≠ (0 : Int32) := by decide
    refine own_go (fun _ hr => iremM X132 hx rfl (hb hby at_146) rfl nz164 hr) ?_
    show own_Go p e below _ (T132.setTop (mkF m 147 #[.val (.int x0), .val (.int x1), .val (.int x2), .val (.int (1 : Int32)), .val (.ref r_V1_1), .val (.ref b126), .val (.int (5 : Int32)), .unset, .unset, .val (.int (1 : Int32)), .unset] [(.int (2 : Int32))]))
    refine own_go (fun _ hr => XS.iconst X132.here hx rfl (hb hby at_147) (XS.isub X132.here hx rfl (hb hby at_148) rfl (XS.istore X132.here hx rfl (hb hby at_149) rfl (l' := #[.val (.int x0), .val (.int x1), .val (.int x2), .val (.int (1 : Int32)), .val (.ref r_V1_1), .val (.ref b126), .val (.int (5 : Int32)), .unset, .unset, .val (.int (1 : Int32)), .val (.int (1 : Int32))]) rfl (XS.aload X132.here hx rfl (hb hby at_151) rfl rfl (XS.iload X132.here hx rfl (hb hby at_153) rfl (own_iaload X132 hx hZ e132 f132 (1 : Int32) (.int (13 : Int32)) ⟨by decide, by decide⟩ rfl rfl rfl (hb hby at_155) (XS.iload X132.here hx rfl (hb hby at_156) rfl (XS.iadd X132.here hx rfl (hb hby at_158) rfl (XS.istore X132.here hx rfl (hb hby at_159) rfl (l' := #[.val (.int x0), .val (.int x1), .val (.int x2), .val (.int (1 : Int32)), .val (.ref r_V1_1), .val (.ref b126), .val (.int (5 : Int32)), .val (.int (14 : Int32)), .unset, .val (.int (1 : Int32)), .val (.int (1 : Int32))]) rfl (XS.iload X132.here hx rfl (hb hby at_161) rfl hr)))))))))) ?_
    show own_Go p e below _ (T132.setTop (mkF m 163 #[.val (.int x0), .val (.int x1), .val (.int x2), .val (.int (1 : Int32)), .val (.ref r_V1_1), .val (.ref b126), .val (.int (5 : Int32)), .val (.int (14 : Int32)), .unset, .val (.int (1 : Int32)), .val (.int (1 : Int32))] [(.int (1 : Int32))]))
    refine own_go (fun _ hr => XS.ifNo X132.here hx rfl (hb hby at_163) rfl ((if0 _ _).trans (feq (by decide)).1) (XS.iconst X132.here hx rfl (hb hby at_166) (XS.istore X132.here hx rfl (hb hby at_167) rfl (l' := #[.val (.int x0), .val (.int x1), .val (.int x2), .val (.int (1 : Int32)), .val (.ref r_V1_1), .val (.ref b126), .val (.int (5 : Int32)), .val (.int (14 : Int32)), .val (.int (0 : Int32)), .val (.int (1 : Int32)), .val (.int (1 : Int32))]) rfl (XS.goto X132.here hx rfl (pc0 := 169) (pc' := 187) rfl (hb hby at_169) (by decide) (by decide) (XS.aload X132.here hx rfl (hb hby at_187) rfl rfl (XS.iload X132.here hx rfl (hb hby at_189) rfl hr)))))) ?_
    show own_Go p e below _ (T132.setTop (mkF m 191 #[.val (.int x0), .val (.int x1), .val (.int x2), .val (.int (1 : Int32)), .val (.ref r_V1_1), .val (.ref b126), .val (.int (5 : Int32)), .val (.int (14 : Int32)), .val (.int (0 : Int32)), .val (.int (1 : Int32)), .val (.int (1 : Int32))] [(.int (14 : Int32)), (.ref r_V1_1)]))
    have f166 := (((((S_V1_1.ext E126).wr W129).wr W130).wr W131).wr W132)
    have Z167 := (Nat.le_trans (Nat.le_trans (Nat.le_trans (Nat.le_trans (Nat.le_trans Z0 E126.1) (Nat.le_of_eq W129.size.symm)) (Nat.le_of_eq W130.size.symm)) (Nat.le_of_eq W131.size.symm)) (Nat.le_of_eq W132.size.symm))
    have f168 := (((((E_V1_1.ext E126).wr W129).wr W130).wr W131).wr W132)
    refine own_cv X132 hx hZ hown (notFace_of_selects (args := #[]) (mvT hZ (hw _ (own_m 8 rfl)))) (hw _ (own_m 5 rfl)) (hw _ (own_m 6 rfl)) (hw _ (own_m 8 rfl)) (hw _ (own_m 7 rfl)) (hw _ (own_m 1 rfl)) (hw _ (own_m 9 rfl)) (by decide) f168 (rm := { frames := 0, cells := 0, slots := 0, locals := 0 }) (rm_a18_endsLine l Z a0 hw [] r_V1_1 h132 n0 Z167 f166) (by decide) (W := 0) (by decide) (by decide) (by decide) e132 (by rw [hml]; rfl) (argsL := [(.int (14 : Int32))]) (lenOf own_pd0 rfl) (rest := []) rfl rfl (Nat.le_of_eq rfl) (hb hby at_191) ?_
    intro _ T165 L165 X165 hQ165
    obtain ⟨rfl, N165q, e165⟩ := hQ165
    have N165 := Fr.app N132 N165q
    show own_Go p e below _ (T165.setTop (mkF m 194 #[.val (.int x0), .val (.int x1), .val (.int x2), .val (.int (1 : Int32)), .val (.ref r_V1_1), .val (.ref b126), .val (.int (5 : Int32)), .val (.int (14 : Int32)), .val (.int (0 : Int32)), .val (.int (1 : Int32)), .val (.int (1 : Int32))] [(.int (0 : Int32))]))
    refine own_go (fun _ hr => XS.iload X165.here hx rfl (hb hby at_194) rfl (XS.icmpNo X165.here hx rfl (hb hby at_196) rfl (teq (by decide)).2 (XS.iconst X165.here hx rfl (hb hby at_199) (XS.goto X165.here hx rfl (pc0 := 200) (pc' := 204) rfl (hb hby at_200) (by decide) (by decide) hr)))) ?_
    show own_Go p e below _ (T165.setTop (mkF m 204 #[.val (.int x0), .val (.int x1), .val (.int x2), .val (.int (1 : Int32)), .val (.ref r_V1_1), .val (.ref b126), .val (.int (5 : Int32)), .val (.int (14 : Int32)), .val (.int (0 : Int32)), .val (.int (1 : Int32)), .val (.int (1 : Int32))] [(.int (1 : Int32))]))
    exact own_retN X165 hx hlk Bd.returns (t := .boolean) (by simp) (hb hby at_204) (by decide) (by decide) ⟨rfl, N165⟩
  · rw [hk134]
    show own_Go p e below _ (T132.setTop (mkF m 63 #[.val (.int x0), .val (.int x1), .val (.int x2), .val (.int (1 : Int32)), .val (.ref r_V1_1), .val (.ref b126), .val (.int (6 : Int32)), .unset, .unset, .unset, .unset] []))
    refine own_go (fun _ hr => XS.iload X132.here hx rfl (hb hby at_63) rfl (XS.bipush X132.here hx rfl (hb hby at_65) (XS.icmpYes X132.here hx rfl (pc0 := 67) (pc' := 137) rfl (hb hby at_67) rfl (feq (by decide)).2 (by decide) (by decide) (XS.iload X132.here hx rfl (hb hby at_137) rfl (XS.iconst X132.here hx rfl (hb hby at_139) hr))))) ?_
    show own_Go p e below _ (T132.setTop (mkF m 140 #[.val (.int x0), .val (.int x1), .val (.int x2), .val (.int (1 : Int32)), .val (.ref r_V1_1), .val (.ref b126), .val (.int (6 : Int32)), .unset, .unset, .unset, .unset] [(.int (3 : Int32)), (.int (6 : Int32))]))
    have nz169 : (3 : Int32) ≠ (0 : Int32) := by decide
    refine own_go (fun _ hr => XS.idiv X132.here hx rfl (hb hby at_140) rfl nz169 hr) ?_
    show own_Go p e below _ (T132.setTop (mkF m 141 #[.val (.int x0), .val (.int x1), .val (.int x2), .val (.int (1 : Int32)), .val (.ref r_V1_1), .val (.ref b126), .val (.int (6 : Int32)), .unset, .unset, .unset, .unset] [(.int (2 : Int32))]))
    refine own_go (fun _ hr => XS.istore X132.here hx rfl (hb hby at_141) rfl (l' := #[.val (.int x0), .val (.int x1), .val (.int x2), .val (.int (1 : Int32)), .val (.ref r_V1_1), .val (.ref b126), .val (.int (6 : Int32)), .unset, .unset, .val (.int (2 : Int32)), .unset]) rfl (XS.iload X132.here hx rfl (hb hby at_143) rfl (XS.iconst X132.here hx rfl (hb hby at_145) hr))) ?_
    show own_Go p e below _ (T132.setTop (mkF m 146 #[.val (.int x0), .val (.int x1), .val (.int x2), .val (.int (1 : Int32)), .val (.ref r_V1_1), .val (.ref b126), .val (.int (6 : Int32)), .unset, .unset, .val (.int (2 : Int32)), .unset] [(.int (3 : Int32)), (.int (6 : Int32))]))
    have nz170 : (3 : Int32) ≠ (0 : Int32) := by decide
    refine own_go (fun _ hr => iremM X132 hx rfl (hb hby at_146) rfl nz170 hr) ?_
    show own_Go p e below _ (T132.setTop (mkF m 147 #[.val (.int x0), .val (.int x1), .val (.int x2), .val (.int (1 : Int32)), .val (.ref r_V1_1), .val (.ref b126), .val (.int (6 : Int32)), .unset, .unset, .val (.int (2 : Int32)), .unset] [(.int (0 : Int32))]))
    refine own_go (fun _ hr => XS.iconst X132.here hx rfl (hb hby at_147) (XS.isub X132.here hx rfl (hb hby at_148) rfl (XS.istore X132.here hx rfl (hb hby at_149) rfl (l' := #[.val (.int x0), .val (.int x1), .val (.int x2), .val (.int (1 : Int32)), .val (.ref r_V1_1), .val (.ref b126), .val (.int (6 : Int32)), .unset, .unset, .val (.int (2 : Int32)), .val (.int (-1 : Int32))]) rfl (XS.aload X132.here hx rfl (hb hby at_151) rfl rfl (XS.iload X132.here hx rfl (hb hby at_153) rfl (own_iaload X132 hx hZ e132 f132 (2 : Int32) (.int (133 : Int32)) ⟨by decide, by decide⟩ rfl rfl rfl (hb hby at_155) (XS.iload X132.here hx rfl (hb hby at_156) rfl (XS.iadd X132.here hx rfl (hb hby at_158) rfl (XS.istore X132.here hx rfl (hb hby at_159) rfl (l' := #[.val (.int x0), .val (.int x1), .val (.int x2), .val (.int (1 : Int32)), .val (.ref r_V1_1), .val (.ref b126), .val (.int (6 : Int32)), .val (.int (132 : Int32)), .unset, .val (.int (2 : Int32)), .val (.int (-1 : Int32))]) rfl (XS.iload X132.here hx rfl (hb hby at_161) rfl hr)))))))))) ?_
    show own_Go p e below _ (T132.setTop (mkF m 163 #[.val (.int x0), .val (.int x1), .val (.int x2), .val (.int (1 : Int32)), .val (.ref r_V1_1), .val (.ref b126), .val (.int (6 : Int32)), .val (.int (132 : Int32)), .unset, .val (.int (2 : Int32)), .val (.int (-1 : Int32))] [(.int (-1 : Int32))]))
    refine own_go (fun _ hr => XS.ifNo X132.here hx rfl (hb hby at_163) rfl ((if0 _ _).trans (feq (by decide)).1) (XS.iconst X132.here hx rfl (hb hby at_166) (XS.istore X132.here hx rfl (hb hby at_167) rfl (l' := #[.val (.int x0), .val (.int x1), .val (.int x2), .val (.int (1 : Int32)), .val (.ref r_V1_1), .val (.ref b126), .val (.int (6 : Int32)), .val (.int (132 : Int32)), .val (.int (0 : Int32)), .val (.int (2 : Int32)), .val (.int (-1 : Int32))]) rfl (XS.goto X132.here hx rfl (pc0 := 169) (pc' := 187) rfl (hb hby at_169) (by decide) (by decide) (XS.aload X132.here hx rfl (hb hby at_187) rfl rfl (XS.iload X132.here hx rfl (hb hby at_189) rfl hr)))))) ?_
    show own_Go p e below _ (T132.setTop (mkF m 191 #[.val (.int x0), .val (.int x1), .val (.int x2), .val (.int (1 : Int32)), .val (.ref r_V1_1), .val (.ref b126), .val (.int (6 : Int32)), .val (.int (132 : Int32)), .val (.int (0 : Int32)), .val (.int (2 : Int32)), .val (.int (-1 : Int32))] [(.int (132 : Int32)), (.ref r_V1_1)]))
    have f172 := (((((S_V1_1.ext E126).wr W129).wr W130).wr W131).wr W132)
    have Z173 := (Nat.le_trans (Nat.le_trans (Nat.le_trans (Nat.le_trans (Nat.le_trans Z0 E126.1) (Nat.le_of_eq W129.size.symm)) (Nat.le_of_eq W130.size.symm)) (Nat.le_of_eq W131.size.symm)) (Nat.le_of_eq W132.size.symm))
    have f174 := (((((E_V1_1.ext E126).wr W129).wr W130).wr W131).wr W132)
    refine own_cv X132 hx hZ hown (notFace_of_selects (args := #[]) (mvT hZ (hw _ (own_m 8 rfl)))) (hw _ (own_m 5 rfl)) (hw _ (own_m 6 rfl)) (hw _ (own_m 8 rfl)) (hw _ (own_m 7 rfl)) (hw _ (own_m 1 rfl)) (hw _ (own_m 9 rfl)) (by decide) f174 (rm := { frames := 0, cells := 0, slots := 0, locals := 0 }) (rm_a19_endsLine l Z a0 hw [] r_V1_1 h132 n0 Z173 f172) (by decide) (W := 0) (by decide) (by decide) (by decide) e132 (by rw [hml]; rfl) (argsL := [(.int (132 : Int32))]) (lenOf own_pd0 rfl) (rest := []) rfl rfl (Nat.le_of_eq rfl) (hb hby at_191) ?_
    intro _ T171 L171 X171 hQ171
    obtain ⟨rfl, N171q, e171⟩ := hQ171
    have N171 := Fr.app N132 N171q
    show own_Go p e below _ (T171.setTop (mkF m 194 #[.val (.int x0), .val (.int x1), .val (.int x2), .val (.int (1 : Int32)), .val (.ref r_V1_1), .val (.ref b126), .val (.int (6 : Int32)), .val (.int (132 : Int32)), .val (.int (0 : Int32)), .val (.int (2 : Int32)), .val (.int (-1 : Int32))] [(.int (0 : Int32))]))
    refine own_go (fun _ hr => XS.iload X171.here hx rfl (hb hby at_194) rfl (XS.icmpNo X171.here hx rfl (hb hby at_196) rfl (teq (by decide)).2 (XS.iconst X171.here hx rfl (hb hby at_199) (XS.goto X171.here hx rfl (pc0 := 200) (pc' := 204) rfl (hb hby at_200) (by decide) (by decide) hr)))) ?_
    show own_Go p e below _ (T171.setTop (mkF m 204 #[.val (.int x0), .val (.int x1), .val (.int x2), .val (.int (1 : Int32)), .val (.ref r_V1_1), .val (.ref b126), .val (.int (6 : Int32)), .val (.int (132 : Int32)), .val (.int (0 : Int32)), .val (.int (2 : Int32)), .val (.int (-1 : Int32))] [(.int (1 : Int32))]))
    exact own_retN X171 hx hlk Bd.returns (t := .boolean) (by simp) (hb hby at_204) (by decide) (by decide) ⟨rfl, N171⟩
  · rw [hk134]
    show own_Go p e below _ (T132.setTop (mkF m 63 #[.val (.int x0), .val (.int x1), .val (.int x2), .val (.int (1 : Int32)), .val (.ref r_V1_1), .val (.ref b126), .val (.int (7 : Int32)), .unset, .unset, .unset, .unset] []))
    refine own_go (fun _ hr => XS.iload X132.here hx rfl (hb hby at_63) rfl (XS.bipush X132.here hx rfl (hb hby at_65) (XS.icmpYes X132.here hx rfl (pc0 := 67) (pc' := 137) rfl (hb hby at_67) rfl (feq (by decide)).2 (by decide) (by decide) (XS.iload X132.here hx rfl (hb hby at_137) rfl (XS.iconst X132.here hx rfl (hb hby at_139) hr))))) ?_
    show own_Go p e below _ (T132.setTop (mkF m 140 #[.val (.int x0), .val (.int x1), .val (.int x2), .val (.int (1 : Int32)), .val (.ref r_V1_1), .val (.ref b126), .val (.int (7 : Int32)), .unset, .unset, .unset, .unset] [(.int (3 : Int32)), (.int (7 : Int32))]))
    have nz175 : (3 : Int32) ≠ (0 : Int32) := by decide
    refine own_go (fun _ hr => XS.idiv X132.here hx rfl (hb hby at_140) rfl nz175 hr) ?_
    show own_Go p e below _ (T132.setTop (mkF m 141 #[.val (.int x0), .val (.int x1), .val (.int x2), .val (.int (1 : Int32)), .val (.ref r_V1_1), .val (.ref b126), .val (.int (7 : Int32)), .unset, .unset, .unset, .unset] [(.int (2 : Int32))]))
    refine own_go (fun _ hr => XS.istore X132.here hx rfl (hb hby at_141) rfl (l' := #[.val (.int x0), .val (.int x1), .val (.int x2), .val (.int (1 : Int32)), .val (.ref r_V1_1), .val (.ref b126), .val (.int (7 : Int32)), .unset, .unset, .val (.int (2 : Int32)), .unset]) rfl (XS.iload X132.here hx rfl (hb hby at_143) rfl (XS.iconst X132.here hx rfl (hb hby at_145) hr))) ?_
    show own_Go p e below _ (T132.setTop (mkF m 146 #[.val (.int x0), .val (.int x1), .val (.int x2), .val (.int (1 : Int32)), .val (.ref r_V1_1), .val (.ref b126), .val (.int (7 : Int32)), .unset, .unset, .val (.int (2 : Int32)), .unset] [(.int (3 : Int32)), (.int (7 : Int32))]))
    have nz176 : (3 : Int32) ≠ (0 : Int32) := by decide
    refine own_go (fun _ hr => iremM X132 hx rfl (hb hby at_146) rfl nz176 hr) ?_
    show own_Go p e below _ (T132.setTop (mkF m 147 #[.val (.int x0), .val (.int x1), .val (.int x2), .val (.int (1 : Int32)), .val (.ref r_V1_1), .val (.ref b126), .val (.int (7 : Int32)), .unset, .unset, .val (.int (2 : Int32)), .unset] [(.int (1 : Int32))]))
    refine own_go (fun _ hr => XS.iconst X132.here hx rfl (hb hby at_147) (XS.isub X132.here hx rfl (hb hby at_148) rfl (XS.istore X132.here hx rfl (hb hby at_149) rfl (l' := #[.val (.int x0), .val (.int x1), .val (.int x2), .val (.int (1 : Int32)), .val (.ref r_V1_1), .val (.ref b126), .val (.int (7 : Int32)), .unset, .unset, .val (.int (2 : Int32)), .val (.int (0 : Int32))]) rfl (XS.aload X132.here hx rfl (hb hby at_151) rfl rfl (XS.iload X132.here hx rfl (hb hby at_153) rfl (own_iaload X132 hx hZ e132 f132 (2 : Int32) (.int (133 : Int32)) ⟨by decide, by decide⟩ rfl rfl rfl (hb hby at_155) (XS.iload X132.here hx rfl (hb hby at_156) rfl (XS.iadd X132.here hx rfl (hb hby at_158) rfl (XS.istore X132.here hx rfl (hb hby at_159) rfl (l' := #[.val (.int x0), .val (.int x1), .val (.int x2), .val (.int (1 : Int32)), .val (.ref r_V1_1), .val (.ref b126), .val (.int (7 : Int32)), .val (.int (133 : Int32)), .unset, .val (.int (2 : Int32)), .val (.int (0 : Int32))]) rfl (XS.iload X132.here hx rfl (hb hby at_161) rfl hr)))))))))) ?_
    show own_Go p e below _ (T132.setTop (mkF m 163 #[.val (.int x0), .val (.int x1), .val (.int x2), .val (.int (1 : Int32)), .val (.ref r_V1_1), .val (.ref b126), .val (.int (7 : Int32)), .val (.int (133 : Int32)), .unset, .val (.int (2 : Int32)), .val (.int (0 : Int32))] [(.int (0 : Int32))]))
    refine own_go (fun _ hr => XS.ifYes X132.here hx rfl (pc0 := 163) (pc' := 172) rfl (hb hby at_163) rfl ((if0 _ _).trans (teq (by decide)).1) (by decide) (by decide) (XS.iload X132.here hx rfl (hb hby at_172) rfl (XS.iconst X132.here hx rfl (hb hby at_174) (XS.icmpYes X132.here hx rfl (pc0 := 175) (pc' := 184) rfl (hb hby at_175) rfl (flt (by decide)).2.1 (by decide) (by decide) (XS.iloadN X132.here hx rfl (hb hby at_184) rfl (XS.istore X132.here hx rfl (hb hby at_185) rfl (l' := #[.val (.int x0), .val (.int x1), .val (.int x2), .val (.int (1 : Int32)), .val (.ref r_V1_1), .val (.ref b126), .val (.int (7 : Int32)), .val (.int (133 : Int32)), .val (.int (1 : Int32)), .val (.int (2 : Int32)), .val (.int (0 : Int32))]) rfl (XS.aload X132.here hx rfl (hb hby at_187) rfl rfl (XS.iload X132.here hx rfl (hb hby at_189) rfl hr)))))))) ?_
    show own_Go p e below _ (T132.setTop (mkF m 191 #[.val (.int x0), .val (.int x1), .val (.int x2), .val (.int (1 : Int32)), .val (.ref r_V1_1), .val (.ref b126), .val (.int (7 : Int32)), .val (.int (133 : Int32)), .val (.int (1 : Int32)), .val (.int (2 : Int32)), .val (.int (0 : Int32))] [(.int (133 : Int32)), (.ref r_V1_1)]))
    have f178 := (((((S_V1_1.ext E126).wr W129).wr W130).wr W131).wr W132)
    have Z179 := (Nat.le_trans (Nat.le_trans (Nat.le_trans (Nat.le_trans (Nat.le_trans Z0 E126.1) (Nat.le_of_eq W129.size.symm)) (Nat.le_of_eq W130.size.symm)) (Nat.le_of_eq W131.size.symm)) (Nat.le_of_eq W132.size.symm))
    have f180 := (((((E_V1_1.ext E126).wr W129).wr W130).wr W131).wr W132)
    refine own_cv X132 hx hZ hown (notFace_of_selects (args := #[]) (mvT hZ (hw _ (own_m 8 rfl)))) (hw _ (own_m 5 rfl)) (hw _ (own_m 6 rfl)) (hw _ (own_m 8 rfl)) (hw _ (own_m 7 rfl)) (hw _ (own_m 1 rfl)) (hw _ (own_m 9 rfl)) (by decide) f180 (rm := { frames := 0, cells := 0, slots := 0, locals := 0 }) (rm_a20_endsLine l Z a0 hw [] r_V1_1 h132 n0 Z179 f178) (by decide) (W := 0) (by decide) (by decide) (by decide) e132 (by rw [hml]; rfl) (argsL := [(.int (133 : Int32))]) (lenOf own_pd0 rfl) (rest := []) rfl rfl (Nat.le_of_eq rfl) (hb hby at_191) ?_
    intro _ T177 L177 X177 hQ177
    obtain ⟨rfl, N177q, e177⟩ := hQ177
    have N177 := Fr.app N132 N177q
    show own_Go p e below _ (T177.setTop (mkF m 194 #[.val (.int x0), .val (.int x1), .val (.int x2), .val (.int (1 : Int32)), .val (.ref r_V1_1), .val (.ref b126), .val (.int (7 : Int32)), .val (.int (133 : Int32)), .val (.int (1 : Int32)), .val (.int (2 : Int32)), .val (.int (0 : Int32))] [(.int (1 : Int32))]))
    refine own_go (fun _ hr => XS.iload X177.here hx rfl (hb hby at_194) rfl (XS.icmpNo X177.here hx rfl (hb hby at_196) rfl (teq (by decide)).2 (XS.iconst X177.here hx rfl (hb hby at_199) (XS.goto X177.here hx rfl (pc0 := 200) (pc' := 204) rfl (hb hby at_200) (by decide) (by decide) hr)))) ?_
    show own_Go p e below _ (T177.setTop (mkF m 204 #[.val (.int x0), .val (.int x1), .val (.int x2), .val (.int (1 : Int32)), .val (.ref r_V1_1), .val (.ref b126), .val (.int (7 : Int32)), .val (.int (133 : Int32)), .val (.int (1 : Int32)), .val (.int (2 : Int32)), .val (.int (0 : Int32))] [(.int (1 : Int32))]))
    exact own_retN X177 hx hlk Bd.returns (t := .boolean) (by simp) (hb hby at_204) (by decide) (by decide) ⟨rfl, N177⟩
  · rw [hk134]
    show own_Go p e below _ (T132.setTop (mkF m 63 #[.val (.int x0), .val (.int x1), .val (.int x2), .val (.int (1 : Int32)), .val (.ref r_V1_1), .val (.ref b126), .val (.int (8 : Int32)), .unset, .unset, .unset, .unset] []))
    refine own_go (fun _ hr => XS.iload X132.here hx rfl (hb hby at_63) rfl (XS.bipush X132.here hx rfl (hb hby at_65) (XS.icmpYes X132.here hx rfl (pc0 := 67) (pc' := 137) rfl (hb hby at_67) rfl (feq (by decide)).2 (by decide) (by decide) (XS.iload X132.here hx rfl (hb hby at_137) rfl (XS.iconst X132.here hx rfl (hb hby at_139) hr))))) ?_
    show own_Go p e below _ (T132.setTop (mkF m 140 #[.val (.int x0), .val (.int x1), .val (.int x2), .val (.int (1 : Int32)), .val (.ref r_V1_1), .val (.ref b126), .val (.int (8 : Int32)), .unset, .unset, .unset, .unset] [(.int (3 : Int32)), (.int (8 : Int32))]))
    have nz181 : (3 : Int32) ≠ (0 : Int32) := by decide
    refine own_go (fun _ hr => XS.idiv X132.here hx rfl (hb hby at_140) rfl nz181 hr) ?_
    show own_Go p e below _ (T132.setTop (mkF m 141 #[.val (.int x0), .val (.int x1), .val (.int x2), .val (.int (1 : Int32)), .val (.ref r_V1_1), .val (.ref b126), .val (.int (8 : Int32)), .unset, .unset, .unset, .unset] [(.int (2 : Int32))]))
    refine own_go (fun _ hr => XS.istore X132.here hx rfl (hb hby at_141) rfl (l' := #[.val (.int x0), .val (.int x1), .val (.int x2), .val (.int (1 : Int32)), .val (.ref r_V1_1), .val (.ref b126), .val (.int (8 : Int32)), .unset, .unset, .val (.int (2 : Int32)), .unset]) rfl (XS.iload X132.here hx rfl (hb hby at_143) rfl (XS.iconst X132.here hx rfl (hb hby at_145) hr))) ?_
    show own_Go p e below _ (T132.setTop (mkF m 146 #[.val (.int x0), .val (.int x1), .val (.int x2), .val (.int (1 : Int32)), .val (.ref r_V1_1), .val (.ref b126), .val (.int (8 : Int32)), .unset, .unset, .val (.int (2 : Int32)), .unset] [(.int (3 : Int32)), (.int (8 : Int32))]))
    have nz182 : (3 : Int32) ≠ (0 : Int32) := by decide
    refine own_go (fun _ hr => iremM X132 hx rfl (hb hby at_146) rfl nz182 hr) ?_
    show own_Go p e below _ (T132.setTop (mkF m 147 #[.val (.int x0), .val (.int x1), .val (.int x2), .val (.int (1 : Int32)), .val (.ref r_V1_1), .val (.ref b126), .val (.int (8 : Int32)), .unset, .unset, .val (.int (2 : Int32)), .unset] [(.int (2 : Int32))]))
    refine own_go (fun _ hr => XS.iconst X132.here hx rfl (hb hby at_147) (XS.isub X132.here hx rfl (hb hby at_148) rfl (XS.istore X132.here hx rfl (hb hby at_149) rfl (l' := #[.val (.int x0), .val (.int x1), .val (.int x2), .val (.int (1 : Int32)), .val (.ref r_V1_1), .val (.ref b126), .val (.int (8 : Int32)), .unset, .unset, .val (.int (2 : Int32)), .val (.int (1 : Int32))]) rfl (XS.aload X132.here hx rfl (hb hby at_151) rfl rfl (XS.iload X132.here hx rfl (hb hby at_153) rfl (own_iaload X132 hx hZ e132 f132 (2 : Int32) (.int (133 : Int32)) ⟨by decide, by decide⟩ rfl rfl rfl (hb hby at_155) (XS.iload X132.here hx rfl (hb hby at_156) rfl (XS.iadd X132.here hx rfl (hb hby at_158) rfl (XS.istore X132.here hx rfl (hb hby at_159) rfl (l' := #[.val (.int x0), .val (.int x1), .val (.int x2), .val (.int (1 : Int32)), .val (.ref r_V1_1), .val (.ref b126), .val (.int (8 : Int32)), .val (.int (134 : Int32)), .unset, .val (.int (2 : Int32)), .val (.int (1 : Int32))]) rfl (XS.iload X132.here hx rfl (hb hby at_161) rfl hr)))))))))) ?_
    show own_Go p e below _ (T132.setTop (mkF m 163 #[.val (.int x0), .val (.int x1), .val (.int x2), .val (.int (1 : Int32)), .val (.ref r_V1_1), .val (.ref b126), .val (.int (8 : Int32)), .val (.int (134 : Int32)), .unset, .val (.int (2 : Int32)), .val (.int (1 : Int32))] [(.int (1 : Int32))]))
    refine own_go (fun _ hr => XS.ifNo X132.here hx rfl (hb hby at_163) rfl ((if0 _ _).trans (feq (by decide)).1) (XS.iconst X132.here hx rfl (hb hby at_166) (XS.istore X132.here hx rfl (hb hby at_167) rfl (l' := #[.val (.int x0), .val (.int x1), .val (.int x2), .val (.int (1 : Int32)), .val (.ref r_V1_1), .val (.ref b126), .val (.int (8 : Int32)), .val (.int (134 : Int32)), .val (.int (0 : Int32)), .val (.int (2 : Int32)), .val (.int (1 : Int32))]) rfl (XS.goto X132.here hx rfl (pc0 := 169) (pc' := 187) rfl (hb hby at_169) (by decide) (by decide) (XS.aload X132.here hx rfl (hb hby at_187) rfl rfl (XS.iload X132.here hx rfl (hb hby at_189) rfl hr)))))) ?_
    show own_Go p e below _ (T132.setTop (mkF m 191 #[.val (.int x0), .val (.int x1), .val (.int x2), .val (.int (1 : Int32)), .val (.ref r_V1_1), .val (.ref b126), .val (.int (8 : Int32)), .val (.int (134 : Int32)), .val (.int (0 : Int32)), .val (.int (2 : Int32)), .val (.int (1 : Int32))] [(.int (134 : Int32)), (.ref r_V1_1)]))
    have f184 := (((((S_V1_1.ext E126).wr W129).wr W130).wr W131).wr W132)
    have Z185 := (Nat.le_trans (Nat.le_trans (Nat.le_trans (Nat.le_trans (Nat.le_trans Z0 E126.1) (Nat.le_of_eq W129.size.symm)) (Nat.le_of_eq W130.size.symm)) (Nat.le_of_eq W131.size.symm)) (Nat.le_of_eq W132.size.symm))
    have f186 := (((((E_V1_1.ext E126).wr W129).wr W130).wr W131).wr W132)
    refine own_cv X132 hx hZ hown (notFace_of_selects (args := #[]) (mvT hZ (hw _ (own_m 8 rfl)))) (hw _ (own_m 5 rfl)) (hw _ (own_m 6 rfl)) (hw _ (own_m 8 rfl)) (hw _ (own_m 7 rfl)) (hw _ (own_m 1 rfl)) (hw _ (own_m 9 rfl)) (by decide) f186 (rm := { frames := 0, cells := 0, slots := 0, locals := 0 }) (rm_a21_endsLine l Z a0 hw [] r_V1_1 h132 n0 Z185 f184) (by decide) (W := 0) (by decide) (by decide) (by decide) e132 (by rw [hml]; rfl) (argsL := [(.int (134 : Int32))]) (lenOf own_pd0 rfl) (rest := []) rfl rfl (Nat.le_of_eq rfl) (hb hby at_191) ?_
    intro _ T183 L183 X183 hQ183
    obtain ⟨rfl, N183q, e183⟩ := hQ183
    have N183 := Fr.app N132 N183q
    show own_Go p e below _ (T183.setTop (mkF m 194 #[.val (.int x0), .val (.int x1), .val (.int x2), .val (.int (1 : Int32)), .val (.ref r_V1_1), .val (.ref b126), .val (.int (8 : Int32)), .val (.int (134 : Int32)), .val (.int (0 : Int32)), .val (.int (2 : Int32)), .val (.int (1 : Int32))] [(.int (0 : Int32))]))
    refine own_go (fun _ hr => XS.iload X183.here hx rfl (hb hby at_194) rfl (XS.icmpNo X183.here hx rfl (hb hby at_196) rfl (teq (by decide)).2 (XS.iconst X183.here hx rfl (hb hby at_199) (XS.goto X183.here hx rfl (pc0 := 200) (pc' := 204) rfl (hb hby at_200) (by decide) (by decide) hr)))) ?_
    show own_Go p e below _ (T183.setTop (mkF m 204 #[.val (.int x0), .val (.int x1), .val (.int x2), .val (.int (1 : Int32)), .val (.ref r_V1_1), .val (.ref b126), .val (.int (8 : Int32)), .val (.int (134 : Int32)), .val (.int (0 : Int32)), .val (.int (2 : Int32)), .val (.int (1 : Int32))] [(.int (1 : Int32))]))
    exact own_retN X183 hx hlk Bd.returns (t := .boolean) (by simp) (hb hby at_204) (by decide) (by decide) ⟨rfl, N183⟩
  · rw [hk134]
    show own_Go p e below _ (T132.setTop (mkF m 63 #[.val (.int x0), .val (.int x1), .val (.int x2), .val (.int (1 : Int32)), .val (.ref r_V1_1), .val (.ref b126), .val (.int (9 : Int32)), .unset, .unset, .unset, .unset] []))
    refine own_go (fun _ hr => XS.iload X132.here hx rfl (hb hby at_63) rfl (XS.bipush X132.here hx rfl (hb hby at_65) (XS.icmpYes X132.here hx rfl (pc0 := 67) (pc' := 137) rfl (hb hby at_67) rfl (feq (by decide)).2 (by decide) (by decide) (XS.iload X132.here hx rfl (hb hby at_137) rfl (XS.iconst X132.here hx rfl (hb hby at_139) hr))))) ?_
    show own_Go p e below _ (T132.setTop (mkF m 140 #[.val (.int x0), .val (.int x1), .val (.int x2), .val (.int (1 : Int32)), .val (.ref r_V1_1), .val (.ref b126), .val (.int (9 : Int32)), .unset, .unset, .unset, .unset] [(.int (3 : Int32)), (.int (9 : Int32))]))
    have nz187 : (3 : Int32) ≠ (0 : Int32) := by decide
    refine own_go (fun _ hr => XS.idiv X132.here hx rfl (hb hby at_140) rfl nz187 hr) ?_
    show own_Go p e below _ (T132.setTop (mkF m 141 #[.val (.int x0), .val (.int x1), .val (.int x2), .val (.int (1 : Int32)), .val (.ref r_V1_1), .val (.ref b126), .val (.int (9 : Int32)), .unset, .unset, .unset, .unset] [(.int (3 : Int32))]))
    refine own_go (fun _ hr => XS.istore X132.here hx rfl (hb hby at_141) rfl (l' := #[.val (.int x0), .val (.int x1), .val (.int x2), .val (.int (1 : Int32)), .val (.ref r_V1_1), .val (.ref b126), .val (.int (9 : Int32)), .unset, .unset, .val (.int (3 : Int32)), .unset]) rfl (XS.iload X132.here hx rfl (hb hby at_143) rfl (XS.iconst X132.here hx rfl (hb hby at_145) hr))) ?_
    show own_Go p e below _ (T132.setTop (mkF m 146 #[.val (.int x0), .val (.int x1), .val (.int x2), .val (.int (1 : Int32)), .val (.ref r_V1_1), .val (.ref b126), .val (.int (9 : Int32)), .unset, .unset, .val (.int (3 : Int32)), .unset] [(.int (3 : Int32)), (.int (9 : Int32))]))
    have nz188 : (3 : Int32) ≠ (0 : Int32) := by decide
    refine own_go (fun _ hr => iremM X132 hx rfl (hb hby at_146) rfl nz188 hr) ?_
    show own_Go p e below _ (T132.setTop (mkF m 147 #[.val (.int x0), .val (.int x1), .val (.int x2), .val (.int (1 : Int32)), .val (.ref r_V1_1), .val (.ref b126), .val (.int (9 : Int32)), .unset, .unset, .val (.int (3 : Int32)), .unset] [(.int (0 : Int32))]))
    refine own_go (fun _ hr => XS.iconst X132.here hx rfl (hb hby at_147) (XS.isub X132.here hx rfl (hb hby at_148) rfl (XS.istore X132.here hx rfl (hb hby at_149) rfl (l' := #[.val (.int x0), .val (.int x1), .val (.int x2), .val (.int (1 : Int32)), .val (.ref r_V1_1), .val (.ref b126), .val (.int (9 : Int32)), .unset, .unset, .val (.int (3 : Int32)), .val (.int (-1 : Int32))]) rfl (XS.aload X132.here hx rfl (hb hby at_151) rfl rfl (XS.iload X132.here hx rfl (hb hby at_153) rfl (own_iaload X132 hx hZ e132 f132 (3 : Int32) (.int (8232 : Int32)) ⟨by decide, by decide⟩ rfl rfl rfl (hb hby at_155) (XS.iload X132.here hx rfl (hb hby at_156) rfl (XS.iadd X132.here hx rfl (hb hby at_158) rfl (XS.istore X132.here hx rfl (hb hby at_159) rfl (l' := #[.val (.int x0), .val (.int x1), .val (.int x2), .val (.int (1 : Int32)), .val (.ref r_V1_1), .val (.ref b126), .val (.int (9 : Int32)), .val (.int (8231 : Int32)), .unset, .val (.int (3 : Int32)), .val (.int (-1 : Int32))]) rfl (XS.iload X132.here hx rfl (hb hby at_161) rfl hr)))))))))) ?_
    show own_Go p e below _ (T132.setTop (mkF m 163 #[.val (.int x0), .val (.int x1), .val (.int x2), .val (.int (1 : Int32)), .val (.ref r_V1_1), .val (.ref b126), .val (.int (9 : Int32)), .val (.int (8231 : Int32)), .unset, .val (.int (3 : Int32)), .val (.int (-1 : Int32))] [(.int (-1 : Int32))]))
    refine own_go (fun _ hr => XS.ifNo X132.here hx rfl (hb hby at_163) rfl ((if0 _ _).trans (feq (by decide)).1) (XS.iconst X132.here hx rfl (hb hby at_166) (XS.istore X132.here hx rfl (hb hby at_167) rfl (l' := #[.val (.int x0), .val (.int x1), .val (.int x2), .val (.int (1 : Int32)), .val (.ref r_V1_1), .val (.ref b126), .val (.int (9 : Int32)), .val (.int (8231 : Int32)), .val (.int (0 : Int32)), .val (.int (3 : Int32)), .val (.int (-1 : Int32))]) rfl (XS.goto X132.here hx rfl (pc0 := 169) (pc' := 187) rfl (hb hby at_169) (by decide) (by decide) (XS.aload X132.here hx rfl (hb hby at_187) rfl rfl (XS.iload X132.here hx rfl (hb hby at_189) rfl hr)))))) ?_
    show own_Go p e below _ (T132.setTop (mkF m 191 #[.val (.int x0), .val (.int x1), .val (.int x2), .val (.int (1 : Int32)), .val (.ref r_V1_1), .val (.ref b126), .val (.int (9 : Int32)), .val (.int (8231 : Int32)), .val (.int (0 : Int32)), .val (.int (3 : Int32)), .val (.int (-1 : Int32))] [(.int (8231 : Int32)), (.ref r_V1_1)]))
    have f190 := (((((S_V1_1.ext E126).wr W129).wr W130).wr W131).wr W132)
    have Z191 := (Nat.le_trans (Nat.le_trans (Nat.le_trans (Nat.le_trans (Nat.le_trans Z0 E126.1) (Nat.le_of_eq W129.size.symm)) (Nat.le_of_eq W130.size.symm)) (Nat.le_of_eq W131.size.symm)) (Nat.le_of_eq W132.size.symm))
    have f192 := (((((E_V1_1.ext E126).wr W129).wr W130).wr W131).wr W132)
    refine own_cv X132 hx hZ hown (notFace_of_selects (args := #[]) (mvT hZ (hw _ (own_m 8 rfl)))) (hw _ (own_m 5 rfl)) (hw _ (own_m 6 rfl)) (hw _ (own_m 8 rfl)) (hw _ (own_m 7 rfl)) (hw _ (own_m 1 rfl)) (hw _ (own_m 9 rfl)) (by decide) f192 (rm := { frames := 0, cells := 0, slots := 0, locals := 0 }) (rm_a22_endsLine l Z a0 hw [] r_V1_1 h132 n0 Z191 f190) (by decide) (W := 0) (by decide) (by decide) (by decide) e132 (by rw [hml]; rfl) (argsL := [(.int (8231 : Int32))]) (lenOf own_pd0 rfl) (rest := []) rfl rfl (Nat.le_of_eq rfl) (hb hby at_191) ?_
    intro _ T189 L189 X189 hQ189
    obtain ⟨rfl, N189q, e189⟩ := hQ189
    have N189 := Fr.app N132 N189q
    show own_Go p e below _ (T189.setTop (mkF m 194 #[.val (.int x0), .val (.int x1), .val (.int x2), .val (.int (1 : Int32)), .val (.ref r_V1_1), .val (.ref b126), .val (.int (9 : Int32)), .val (.int (8231 : Int32)), .val (.int (0 : Int32)), .val (.int (3 : Int32)), .val (.int (-1 : Int32))] [(.int (0 : Int32))]))
    refine own_go (fun _ hr => XS.iload X189.here hx rfl (hb hby at_194) rfl (XS.icmpNo X189.here hx rfl (hb hby at_196) rfl (teq (by decide)).2 (XS.iconst X189.here hx rfl (hb hby at_199) (XS.goto X189.here hx rfl (pc0 := 200) (pc' := 204) rfl (hb hby at_200) (by decide) (by decide) hr)))) ?_
    show own_Go p e below _ (T189.setTop (mkF m 204 #[.val (.int x0), .val (.int x1), .val (.int x2), .val (.int (1 : Int32)), .val (.ref r_V1_1), .val (.ref b126), .val (.int (9 : Int32)), .val (.int (8231 : Int32)), .val (.int (0 : Int32)), .val (.int (3 : Int32)), .val (.int (-1 : Int32))] [(.int (1 : Int32))]))
    exact own_retN X189 hx hlk Bd.returns (t := .boolean) (by simp) (hb hby at_204) (by decide) (by decide) ⟨rfl, N189⟩
  · rw [hk134]
    show own_Go p e below _ (T132.setTop (mkF m 63 #[.val (.int x0), .val (.int x1), .val (.int x2), .val (.int (1 : Int32)), .val (.ref r_V1_1), .val (.ref b126), .val (.int (10 : Int32)), .unset, .unset, .unset, .unset] []))
    refine own_go (fun _ hr => XS.iload X132.here hx rfl (hb hby at_63) rfl (XS.bipush X132.here hx rfl (hb hby at_65) (XS.icmpYes X132.here hx rfl (pc0 := 67) (pc' := 137) rfl (hb hby at_67) rfl (feq (by decide)).2 (by decide) (by decide) (XS.iload X132.here hx rfl (hb hby at_137) rfl (XS.iconst X132.here hx rfl (hb hby at_139) hr))))) ?_
    show own_Go p e below _ (T132.setTop (mkF m 140 #[.val (.int x0), .val (.int x1), .val (.int x2), .val (.int (1 : Int32)), .val (.ref r_V1_1), .val (.ref b126), .val (.int (10 : Int32)), .unset, .unset, .unset, .unset] [(.int (3 : Int32)), (.int (10 : Int32))]))
    have nz193 : (3 : Int32) ≠ (0 : Int32) := by decide
    refine own_go (fun _ hr => XS.idiv X132.here hx rfl (hb hby at_140) rfl nz193 hr) ?_
    show own_Go p e below _ (T132.setTop (mkF m 141 #[.val (.int x0), .val (.int x1), .val (.int x2), .val (.int (1 : Int32)), .val (.ref r_V1_1), .val (.ref b126), .val (.int (10 : Int32)), .unset, .unset, .unset, .unset] [(.int (3 : Int32))]))
    refine own_go (fun _ hr => XS.istore X132.here hx rfl (hb hby at_141) rfl (l' := #[.val (.int x0), .val (.int x1), .val (.int x2), .val (.int (1 : Int32)), .val (.ref r_V1_1), .val (.ref b126), .val (.int (10 : Int32)), .unset, .unset, .val (.int (3 : Int32)), .unset]) rfl (XS.iload X132.here hx rfl (hb hby at_143) rfl (XS.iconst X132.here hx rfl (hb hby at_145) hr))) ?_
    show own_Go p e below _ (T132.setTop (mkF m 146 #[.val (.int x0), .val (.int x1), .val (.int x2), .val (.int (1 : Int32)), .val (.ref r_V1_1), .val (.ref b126), .val (.int (10 : Int32)), .unset, .unset, .val (.int (3 : Int32)), .unset] [(.int (3 : Int32)), (.int (10 : Int32))]))
    have nz194 : (3 : Int32) ≠ (0 : Int32) := by decide
    refine own_go (fun _ hr => iremM X132 hx rfl (hb hby at_146) rfl nz194 hr) ?_
    show own_Go p e below _ (T132.setTop (mkF m 147 #[.val (.int x0), .val (.int x1), .val (.int x2), .val (.int (1 : Int32)), .val (.ref r_V1_1), .val (.ref b126), .val (.int (10 : Int32)), .unset, .unset, .val (.int (3 : Int32)), .unset] [(.int (1 : Int32))]))
    refine own_go (fun _ hr => XS.iconst X132.here hx rfl (hb hby at_147) (XS.isub X132.here hx rfl (hb hby at_148) rfl (XS.istore X132.here hx rfl (hb hby at_149) rfl (l' := #[.val (.int x0), .val (.int x1), .val (.int x2), .val (.int (1 : Int32)), .val (.ref r_V1_1), .val (.ref b126), .val (.int (10 : Int32)), .unset, .unset, .val (.int (3 : Int32)), .val (.int (0 : Int32))]) rfl (XS.aload X132.here hx rfl (hb hby at_151) rfl rfl (XS.iload X132.here hx rfl (hb hby at_153) rfl (own_iaload X132 hx hZ e132 f132 (3 : Int32) (.int (8232 : Int32)) ⟨by decide, by decide⟩ rfl rfl rfl (hb hby at_155) (XS.iload X132.here hx rfl (hb hby at_156) rfl (XS.iadd X132.here hx rfl (hb hby at_158) rfl (XS.istore X132.here hx rfl (hb hby at_159) rfl (l' := #[.val (.int x0), .val (.int x1), .val (.int x2), .val (.int (1 : Int32)), .val (.ref r_V1_1), .val (.ref b126), .val (.int (10 : Int32)), .val (.int (8232 : Int32)), .unset, .val (.int (3 : Int32)), .val (.int (0 : Int32))]) rfl (XS.iload X132.here hx rfl (hb hby at_161) rfl hr)))))))))) ?_
    show own_Go p e below _ (T132.setTop (mkF m 163 #[.val (.int x0), .val (.int x1), .val (.int x2), .val (.int (1 : Int32)), .val (.ref r_V1_1), .val (.ref b126), .val (.int (10 : Int32)), .val (.int (8232 : Int32)), .unset, .val (.int (3 : Int32)), .val (.int (0 : Int32))] [(.int (0 : Int32))]))
    refine own_go (fun _ hr => XS.ifYes X132.here hx rfl (pc0 := 163) (pc' := 172) rfl (hb hby at_163) rfl ((if0 _ _).trans (teq (by decide)).1) (by decide) (by decide) (XS.iload X132.here hx rfl (hb hby at_172) rfl (XS.iconst X132.here hx rfl (hb hby at_174) (XS.icmpYes X132.here hx rfl (pc0 := 175) (pc' := 184) rfl (hb hby at_175) rfl (flt (by decide)).2.1 (by decide) (by decide) (XS.iloadN X132.here hx rfl (hb hby at_184) rfl (XS.istore X132.here hx rfl (hb hby at_185) rfl (l' := #[.val (.int x0), .val (.int x1), .val (.int x2), .val (.int (1 : Int32)), .val (.ref r_V1_1), .val (.ref b126), .val (.int (10 : Int32)), .val (.int (8232 : Int32)), .val (.int (1 : Int32)), .val (.int (3 : Int32)), .val (.int (0 : Int32))]) rfl (XS.aload X132.here hx rfl (hb hby at_187) rfl rfl (XS.iload X132.here hx rfl (hb hby at_189) rfl hr)))))))) ?_
    show own_Go p e below _ (T132.setTop (mkF m 191 #[.val (.int x0), .val (.int x1), .val (.int x2), .val (.int (1 : Int32)), .val (.ref r_V1_1), .val (.ref b126), .val (.int (10 : Int32)), .val (.int (8232 : Int32)), .val (.int (1 : Int32)), .val (.int (3 : Int32)), .val (.int (0 : Int32))] [(.int (8232 : Int32)), (.ref r_V1_1)]))
    have f196 := (((((S_V1_1.ext E126).wr W129).wr W130).wr W131).wr W132)
    have Z197 := (Nat.le_trans (Nat.le_trans (Nat.le_trans (Nat.le_trans (Nat.le_trans Z0 E126.1) (Nat.le_of_eq W129.size.symm)) (Nat.le_of_eq W130.size.symm)) (Nat.le_of_eq W131.size.symm)) (Nat.le_of_eq W132.size.symm))
    have f198 := (((((E_V1_1.ext E126).wr W129).wr W130).wr W131).wr W132)
    refine own_cv X132 hx hZ hown (notFace_of_selects (args := #[]) (mvT hZ (hw _ (own_m 8 rfl)))) (hw _ (own_m 5 rfl)) (hw _ (own_m 6 rfl)) (hw _ (own_m 8 rfl)) (hw _ (own_m 7 rfl)) (hw _ (own_m 1 rfl)) (hw _ (own_m 9 rfl)) (by decide) f198 (rm := { frames := 0, cells := 0, slots := 0, locals := 0 }) (rm_a23_endsLine l Z a0 hw [] r_V1_1 h132 n0 Z197 f196) (by decide) (W := 0) (by decide) (by decide) (by decide) e132 (by rw [hml]; rfl) (argsL := [(.int (8232 : Int32))]) (lenOf own_pd0 rfl) (rest := []) rfl rfl (Nat.le_of_eq rfl) (hb hby at_191) ?_
    intro _ T195 L195 X195 hQ195
    obtain ⟨rfl, N195q, e195⟩ := hQ195
    have N195 := Fr.app N132 N195q
    show own_Go p e below _ (T195.setTop (mkF m 194 #[.val (.int x0), .val (.int x1), .val (.int x2), .val (.int (1 : Int32)), .val (.ref r_V1_1), .val (.ref b126), .val (.int (10 : Int32)), .val (.int (8232 : Int32)), .val (.int (1 : Int32)), .val (.int (3 : Int32)), .val (.int (0 : Int32))] [(.int (1 : Int32))]))
    refine own_go (fun _ hr => XS.iload X195.here hx rfl (hb hby at_194) rfl (XS.icmpNo X195.here hx rfl (hb hby at_196) rfl (teq (by decide)).2 (XS.iconst X195.here hx rfl (hb hby at_199) (XS.goto X195.here hx rfl (pc0 := 200) (pc' := 204) rfl (hb hby at_200) (by decide) (by decide) hr)))) ?_
    show own_Go p e below _ (T195.setTop (mkF m 204 #[.val (.int x0), .val (.int x1), .val (.int x2), .val (.int (1 : Int32)), .val (.ref r_V1_1), .val (.ref b126), .val (.int (10 : Int32)), .val (.int (8232 : Int32)), .val (.int (1 : Int32)), .val (.int (3 : Int32)), .val (.int (0 : Int32))] [(.int (1 : Int32))]))
    exact own_retN X195 hx hlk Bd.returns (t := .boolean) (by simp) (hb hby at_204) (by decide) (by decide) ⟨rfl, N195⟩
  · rw [hk134]
    show own_Go p e below _ (T132.setTop (mkF m 63 #[.val (.int x0), .val (.int x1), .val (.int x2), .val (.int (1 : Int32)), .val (.ref r_V1_1), .val (.ref b126), .val (.int (11 : Int32)), .unset, .unset, .unset, .unset] []))
    refine own_go (fun _ hr => XS.iload X132.here hx rfl (hb hby at_63) rfl (XS.bipush X132.here hx rfl (hb hby at_65) (XS.icmpYes X132.here hx rfl (pc0 := 67) (pc' := 137) rfl (hb hby at_67) rfl (feq (by decide)).2 (by decide) (by decide) (XS.iload X132.here hx rfl (hb hby at_137) rfl (XS.iconst X132.here hx rfl (hb hby at_139) hr))))) ?_
    show own_Go p e below _ (T132.setTop (mkF m 140 #[.val (.int x0), .val (.int x1), .val (.int x2), .val (.int (1 : Int32)), .val (.ref r_V1_1), .val (.ref b126), .val (.int (11 : Int32)), .unset, .unset, .unset, .unset] [(.int (3 : Int32)), (.int (11 : Int32))]))
    have nz199 : (3 : Int32) ≠ (0 : Int32) := by decide
    refine own_go (fun _ hr => XS.idiv X132.here hx rfl (hb hby at_140) rfl nz199 hr) ?_
    show own_Go p e below _ (T132.setTop (mkF m 141 #[.val (.int x0), .val (.int x1), .val (.int x2), .val (.int (1 : Int32)), .val (.ref r_V1_1), .val (.ref b126), .val (.int (11 : Int32)), .unset, .unset, .unset, .unset] [(.int (3 : Int32))]))
    refine own_go (fun _ hr => XS.istore X132.here hx rfl (hb hby at_141) rfl (l' := #[.val (.int x0), .val (.int x1), .val (.int x2), .val (.int (1 : Int32)), .val (.ref r_V1_1), .val (.ref b126), .val (.int (11 : Int32)), .unset, .unset, .val (.int (3 : Int32)), .unset]) rfl (XS.iload X132.here hx rfl (hb hby at_143) rfl (XS.iconst X132.here hx rfl (hb hby at_145) hr))) ?_
    show own_Go p e below _ (T132.setTop (mkF m 146 #[.val (.int x0), .val (.int x1), .val (.int x2), .val (.int (1 : Int32)), .val (.ref r_V1_1), .val (.ref b126), .val (.int (11 : Int32)), .unset, .unset, .val (.int (3 : Int32)), .unset] [(.int (3 : Int32)), (.int (11 : Int32))]))
    have nz200 : (3 : Int32) ≠ (0 : Int32) := by decide
    refine own_go (fun _ hr => iremM X132 hx rfl (hb hby at_146) rfl nz200 hr) ?_
    show own_Go p e below _ (T132.setTop (mkF m 147 #[.val (.int x0), .val (.int x1), .val (.int x2), .val (.int (1 : Int32)), .val (.ref r_V1_1), .val (.ref b126), .val (.int (11 : Int32)), .unset, .unset, .val (.int (3 : Int32)), .unset] [(.int (2 : Int32))]))
    refine own_go (fun _ hr => XS.iconst X132.here hx rfl (hb hby at_147) (XS.isub X132.here hx rfl (hb hby at_148) rfl (XS.istore X132.here hx rfl (hb hby at_149) rfl (l' := #[.val (.int x0), .val (.int x1), .val (.int x2), .val (.int (1 : Int32)), .val (.ref r_V1_1), .val (.ref b126), .val (.int (11 : Int32)), .unset, .unset, .val (.int (3 : Int32)), .val (.int (1 : Int32))]) rfl (XS.aload X132.here hx rfl (hb hby at_151) rfl rfl (XS.iload X132.here hx rfl (hb hby at_153) rfl (own_iaload X132 hx hZ e132 f132 (3 : Int32) (.int (8232 : Int32)) ⟨by decide, by decide⟩ rfl rfl rfl (hb hby at_155) (XS.iload X132.here hx rfl (hb hby at_156) rfl (XS.iadd X132.here hx rfl (hb hby at_158) rfl (XS.istore X132.here hx rfl (hb hby at_159) rfl (l' := #[.val (.int x0), .val (.int x1), .val (.int x2), .val (.int (1 : Int32)), .val (.ref r_V1_1), .val (.ref b126), .val (.int (11 : Int32)), .val (.int (8233 : Int32)), .unset, .val (.int (3 : Int32)), .val (.int (1 : Int32))]) rfl (XS.iload X132.here hx rfl (hb hby at_161) rfl hr)))))))))) ?_
    show own_Go p e below _ (T132.setTop (mkF m 163 #[.val (.int x0), .val (.int x1), .val (.int x2), .val (.int (1 : Int32)), .val (.ref r_V1_1), .val (.ref b126), .val (.int (11 : Int32)), .val (.int (8233 : Int32)), .unset, .val (.int (3 : Int32)), .val (.int (1 : Int32))] [(.int (1 : Int32))]))
    refine own_go (fun _ hr => XS.ifNo X132.here hx rfl (hb hby at_163) rfl ((if0 _ _).trans (feq (by decide)).1) (XS.iconst X132.here hx rfl (hb hby at_166) (XS.istore X132.here hx rfl (hb hby at_167) rfl (l' := #[.val (.int x0), .val (.int x1), .val (.int x2), .val (.int (1 : Int32)), .val (.ref r_V1_1), .val (.ref b126), .val (.int (11 : Int32)), .val (.int (8233 : Int32)), .val (.int (0 : Int32)), .val (.int (3 : Int32)), .val (.int (1 : Int32))]) rfl (XS.goto X132.here hx rfl (pc0 := 169) (pc' := 187) rfl (hb hby at_169) (by decide) (by decide) (XS.aload X132.here hx rfl (hb hby at_187) rfl rfl (XS.iload X132.here hx rfl (hb hby at_189) rfl hr)))))) ?_
    show own_Go p e below _ (T132.setTop (mkF m 191 #[.val (.int x0), .val (.int x1), .val (.int x2), .val (.int (1 : Int32)), .val (.ref r_V1_1), .val (.ref b126), .val (.int (11 : Int32)), .val (.int (8233 : Int32)), .val (.int (0 : Int32)), .val (.int (3 : Int32)), .val (.int (1 : Int32))] [(.int (8233 : Int32)), (.ref r_V1_1)]))
    have f202 := (((((S_V1_1.ext E126).wr W129).wr W130).wr W131).wr W132)
    have Z203 := (Nat.le_trans (Nat.le_trans (Nat.le_trans (Nat.le_trans (Nat.le_trans Z0 E126.1) (Nat.le_of_eq W129.size.symm)) (Nat.le_of_eq W130.size.symm)) (Nat.le_of_eq W131.size.symm)) (Nat.le_of_eq W132.size.symm))
    have f204 := (((((E_V1_1.ext E126).wr W129).wr W130).wr W131).wr W132)
    refine own_cv X132 hx hZ hown (notFace_of_selects (args := #[]) (mvT hZ (hw _ (own_m 8 rfl)))) (hw _ (own_m 5 rfl)) (hw _ (own_m 6 rfl)) (hw _ (own_m 8 rfl)) (hw _ (own_m 7 rfl)) (hw _ (own_m 1 rfl)) (hw _ (own_m 9 rfl)) (by decide) f204 (rm := { frames := 0, cells := 0, slots := 0, locals := 0 }) (rm_a24_endsLine l Z a0 hw [] r_V1_1 h132 n0 Z203 f202) (by decide) (W := 0) (by decide) (by decide) (by decide) e132 (by rw [hml]; rfl) (argsL := [(.int (8233 : Int32))]) (lenOf own_pd0 rfl) (rest := []) rfl rfl (Nat.le_of_eq rfl) (hb hby at_191) ?_
    intro _ T201 L201 X201 hQ201
    obtain ⟨rfl, N201q, e201⟩ := hQ201
    have N201 := Fr.app N132 N201q
    show own_Go p e below _ (T201.setTop (mkF m 194 #[.val (.int x0), .val (.int x1), .val (.int x2), .val (.int (1 : Int32)), .val (.ref r_V1_1), .val (.ref b126), .val (.int (11 : Int32)), .val (.int (8233 : Int32)), .val (.int (0 : Int32)), .val (.int (3 : Int32)), .val (.int (1 : Int32))] [(.int (0 : Int32))]))
    refine own_go (fun _ hr => XS.iload X201.here hx rfl (hb hby at_194) rfl (XS.icmpNo X201.here hx rfl (hb hby at_196) rfl (teq (by decide)).2 (XS.iconst X201.here hx rfl (hb hby at_199) (XS.goto X201.here hx rfl (pc0 := 200) (pc' := 204) rfl (hb hby at_200) (by decide) (by decide) hr)))) ?_
    show own_Go p e below _ (T201.setTop (mkF m 204 #[.val (.int x0), .val (.int x1), .val (.int x2), .val (.int (1 : Int32)), .val (.ref r_V1_1), .val (.ref b126), .val (.int (11 : Int32)), .val (.int (8233 : Int32)), .val (.int (0 : Int32)), .val (.int (3 : Int32)), .val (.int (1 : Int32))] [(.int (1 : Int32))]))
    exact own_retN X201 hx hlk Bd.returns (t := .boolean) (by simp) (hb hby at_204) (by decide) (by decide) ⟨rfl, N201⟩
  · rw [hk134]
    show own_Go p e below _ (T132.setTop (mkF m 63 #[.val (.int x0), .val (.int x1), .val (.int x2), .val (.int (1 : Int32)), .val (.ref r_V1_1), .val (.ref b126), .val (.int (12 : Int32)), .unset, .unset, .unset, .unset] []))
    refine own_go (fun _ hr => XS.iload X132.here hx rfl (hb hby at_63) rfl (XS.bipush X132.here hx rfl (hb hby at_65) (XS.icmpNo X132.here hx rfl (hb hby at_67) rfl (teq (by decide)).2 (XS.iloadN X132.here hx rfl (hb hby at_70) rfl (XS.istore X132.here hx rfl (hb hby at_71) rfl (l' := #[.val (.int x0), .val (.int x1), .val (.int x2), .val (.int (1 : Int32)), .val (.ref r_V1_1), .val (.ref b126), .val (.int (12 : Int32)), .val (.int x2), .unset, .unset, .unset]) rfl (XS.iloadN X132.here hx rfl (hb hby at_73) rfl (XS.bipush X132.here hx rfl (hb hby at_74) hr))))))) ?_
    show own_Go p e below _ (T132.setTop (mkF m 76 #[.val (.int x0), .val (.int x1), .val (.int x2), .val (.int (1 : Int32)), .val (.ref r_V1_1), .val (.ref b126), .val (.int (12 : Int32)), .val (.int x2), .unset, .unset, .unset] [(.int (10 : Int32)), (.int x2)]))
    by_cases c205 : x2 = (10 : Int32)
    · refine own_go (fun _ hr => XS.icmpYes X132.here hx rfl (pc0 := 76) (pc' := 85) rfl (hb hby at_76) rfl (teq c205).1 (by decide) (by decide) hr) ?_
      show own_Go p e below _ (T132.setTop (mkF m 85 #[.val (.int x0), .val (.int x1), .val (.int x2), .val (.int (1 : Int32)), .val (.ref r_V1_1), .val (.ref b126), .val (.int (12 : Int32)), .val (.int x2), .unset, .unset, .unset] []))
      refine own_go (fun _ hr => XS.iconst X132.here hx rfl (hb hby at_85) (XS.goto X132.here hx rfl (pc0 := 86) (pc' := 90) rfl (hb hby at_86) (by decide) (by decide) (XS.istore X132.here hx rfl (hb hby at_90) rfl (l' := #[.val (.int x0), .val (.int x1), .val (.int x2), .val (.int (1 : Int32)), .val (.ref r_V1_1), .val (.ref b126), .val (.int (12 : Int32)), .val (.int x2), .unset, .val (.int (1 : Int32)), .unset]) rfl (XS.iloadN X132.here hx rfl (hb hby at_92) rfl (XS.sipush X132.here hx rfl (hb hby at_93) hr))))) ?_
      show own_Go p e below _ (T132.setTop (mkF m 96 #[.val (.int x0), .val (.int x1), .val (.int x2), .val (.int (1 : Int32)), .val (.ref r_V1_1), .val (.ref b126), .val (.int (12 : Int32)), .val (.int x2), .unset, .val (.int (1 : Int32)), .unset] [(.int (133 : Int32)), (.int x2)]))
      have c206 : ¬ (x2 = (133 : Int32)) := by rw [c205]; decide
      refine own_go (fun _ hr => XS.icmpNo X132.here hx rfl (hb hby at_96) rfl (feq c206).1 hr) ?_
      show own_Go p e below _ (T132.setTop (mkF m 99 #[.val (.int x0), .val (.int x1), .val (.int x2), .val (.int (1 : Int32)), .val (.ref r_V1_1), .val (.ref b126), .val (.int (12 : Int32)), .val (.int x2), .unset, .val (.int (1 : Int32)), .unset] []))
      refine own_go (fun _ hr => XS.iloadN X132.here hx rfl (hb hby at_99) rfl (XS.sipush X132.here hx rfl (hb hby at_100) hr)) ?_
      show own_Go p e below _ (T132.setTop (mkF m 103 #[.val (.int x0), .val (.int x1), .val (.int x2), .val (.int (1 : Int32)), .val (.ref r_V1_1), .val (.ref b126), .val (.int (12 : Int32)), .val (.int x2), .unset, .val (.int (1 : Int32)), .unset] [(.int (8232 : Int32)), (.int x2)]))
      have c207 : ¬ (x2 = (8232 : Int32)) := by rw [c205]; decide
      refine own_go (fun _ hr => XS.icmpYes X132.here hx rfl (pc0 := 103) (pc' := 110) rfl (hb hby at_103) rfl (feq c207).2 (by decide) (by decide) hr) ?_
      show own_Go p e below _ (T132.setTop (mkF m 110 #[.val (.int x0), .val (.int x1), .val (.int x2), .val (.int (1 : Int32)), .val (.ref r_V1_1), .val (.ref b126), .val (.int (12 : Int32)), .val (.int x2), .unset, .val (.int (1 : Int32)), .unset] []))
      refine own_go (fun _ hr => XS.iconst X132.here hx rfl (hb hby at_110) (XS.istore X132.here hx rfl (hb hby at_111) rfl (l' := #[.val (.int x0), .val (.int x1), .val (.int x2), .val (.int (1 : Int32)), .val (.ref r_V1_1), .val (.ref b126), .val (.int (12 : Int32)), .val (.int x2), .unset, .val (.int (1 : Int32)), .val (.int (0 : Int32))]) rfl (XS.iload X132.here hx rfl (hb hby at_113) rfl (XS.ifYes X132.here hx rfl (pc0 := 115) (pc' := 127) rfl (hb hby at_115) rfl ((if0 _ _).trans (feq (by decide)).2) (by decide) (by decide) (XS.iconst X132.here hx rfl (hb hby at_127) (XS.goto X132.here hx rfl (pc0 := 128) (pc' := 132) rfl (hb hby at_128) (by decide) (by decide) (XS.istore X132.here hx rfl (hb hby at_132) rfl (l' := #[.val (.int x0), .val (.int x1), .val (.int x2), .val (.int (1 : Int32)), .val (.ref r_V1_1), .val (.ref b126), .val (.int (12 : Int32)), .val (.int x2), .val (.int (1 : Int32)), .val (.int (1 : Int32)), .val (.int (0 : Int32))]) rfl (XS.goto X132.here hx rfl (pc0 := 134) (pc' := 187) rfl (hb hby at_134) (by decide) (by decide) (XS.aload X132.here hx rfl (hb hby at_187) rfl rfl (XS.iload X132.here hx rfl (hb hby at_189) rfl hr)))))))))) ?_
      show own_Go p e below _ (T132.setTop (mkF m 191 #[.val (.int x0), .val (.int x1), .val (.int x2), .val (.int (1 : Int32)), .val (.ref r_V1_1), .val (.ref b126), .val (.int (12 : Int32)), .val (.int x2), .val (.int (1 : Int32)), .val (.int (1 : Int32)), .val (.int (0 : Int32))] [(.int x2), (.ref r_V1_1)]))
      have f209 := (((((S_V1_0.ext E126).wr W129).wr W130).wr W131).wr W132)
      have f210 := (((((E_V1_0.ext E126).wr W129).wr W130).wr W131).wr W132)
      have f211 := (((((S_V1_1.ext E126).wr W129).wr W130).wr W131).wr W132)
      have f212 := (((((E_V1_1.ext E126).wr W129).wr W130).wr W131).wr W132)
      have Z213 := (Nat.le_trans (Nat.le_trans (Nat.le_trans (Nat.le_trans (Nat.le_trans Z0 E126.1) (Nat.le_of_eq W129.size.symm)) (Nat.le_of_eq W130.size.symm)) (Nat.le_of_eq W131.size.symm)) (Nat.le_of_eq W132.size.symm))
      refine own_cv X132 hx hZ hown (notFace_of_selects (args := #[]) (mvT hZ (hw _ (own_m 8 rfl)))) (hw _ (own_m 5 rfl)) (hw _ (own_m 6 rfl)) (hw _ (own_m 8 rfl)) (hw _ (own_m 7 rfl)) (hw _ (own_m 1 rfl)) (hw _ (own_m 9 rfl)) (by decide) f212 (rm := { frames := 0, cells := 0, slots := 0, locals := 0 }) (rm_l1 l Z a0 hw [] x2 r_V1_0 r_V1_1 h132 n0 Z213 f209 f210 f211 f212 ne_V1_0_V1_1) (by decide) (W := 0) (by decide) (by decide) (by decide) e132 (by rw [hml]; rfl) (argsL := [(.int x2)]) (lenOf own_pd0 rfl) (rest := []) rfl rfl (Nat.le_of_eq rfl) (hb hby at_191) ?_
      intro _ T208 L208 X208 hQ208
      obtain ⟨rfl, N208q, e208⟩ := hQ208
      have N208 := Fr.app N132 N208q
      show own_Go p e below _ (T208.setTop (mkF m 194 #[.val (.int x0), .val (.int x1), .val (.int x2), .val (.int (1 : Int32)), .val (.ref r_V1_1), .val (.ref b126), .val (.int (12 : Int32)), .val (.int x2), .val (.int (1 : Int32)), .val (.int (1 : Int32)), .val (.int (0 : Int32))] [(.int (own_l1 x2))]))
      refine own_go (fun _ hr => XS.iload X208.here hx rfl (hb hby at_194) rfl hr) ?_
      show own_Go p e below _ (T208.setTop (mkF m 196 #[.val (.int x0), .val (.int x1), .val (.int x2), .val (.int (1 : Int32)), .val (.ref r_V1_1), .val (.ref b126), .val (.int (12 : Int32)), .val (.int x2), .val (.int (1 : Int32)), .val (.int (1 : Int32)), .val (.int (0 : Int32))] [(.int (1 : Int32)), (.int (own_l1 x2))]))
      have c214 : (own_l1 x2) = (1 : Int32) := by simp [own_l1, c205, c206, c207]
      refine own_go (fun _ hr => XS.icmpNo X208.here hx rfl (hb hby at_196) rfl (teq c214).2 hr) ?_
      show own_Go p e below _ (T208.setTop (mkF m 199 #[.val (.int x0), .val (.int x1), .val (.int x2), .val (.int (1 : Int32)), .val (.ref r_V1_1), .val (.ref b126), .val (.int (12 : Int32)), .val (.int x2), .val (.int (1 : Int32)), .val (.int (1 : Int32)), .val (.int (0 : Int32))] []))
      refine own_go (fun _ hr => XS.iconst X208.here hx rfl (hb hby at_199) (XS.goto X208.here hx rfl (pc0 := 200) (pc' := 204) rfl (hb hby at_200) (by decide) (by decide) hr)) ?_
      show own_Go p e below _ (T208.setTop (mkF m 204 #[.val (.int x0), .val (.int x1), .val (.int x2), .val (.int (1 : Int32)), .val (.ref r_V1_1), .val (.ref b126), .val (.int (12 : Int32)), .val (.int x2), .val (.int (1 : Int32)), .val (.int (1 : Int32)), .val (.int (0 : Int32))] [(.int (1 : Int32))]))
      exact own_retN X208 hx hlk Bd.returns (t := .boolean) (by simp) (hb hby at_204) (by decide) (by decide) ⟨rfl, N208⟩
    refine own_go (fun _ hr => XS.icmpNo X132.here hx rfl (hb hby at_76) rfl (feq c205).1 hr) ?_
    show own_Go p e below _ (T132.setTop (mkF m 79 #[.val (.int x0), .val (.int x1), .val (.int x2), .val (.int (1 : Int32)), .val (.ref r_V1_1), .val (.ref b126), .val (.int (12 : Int32)), .val (.int x2), .unset, .unset, .unset] []))
    refine own_go (fun _ hr => XS.iloadN X132.here hx rfl (hb hby at_79) rfl (XS.bipush X132.here hx rfl (hb hby at_80) hr)) ?_
    show own_Go p e below _ (T132.setTop (mkF m 82 #[.val (.int x0), .val (.int x1), .val (.int x2), .val (.int (1 : Int32)), .val (.ref r_V1_1), .val (.ref b126), .val (.int (12 : Int32)), .val (.int x2), .unset, .unset, .unset] [(.int (13 : Int32)), (.int x2)]))
    by_cases c215 : x2 = (13 : Int32)
    · refine own_go (fun _ hr => XS.icmpNo X132.here hx rfl (hb hby at_82) rfl (teq c215).2 hr) ?_
      show own_Go p e below _ (T132.setTop (mkF m 85 #[.val (.int x0), .val (.int x1), .val (.int x2), .val (.int (1 : Int32)), .val (.ref r_V1_1), .val (.ref b126), .val (.int (12 : Int32)), .val (.int x2), .unset, .unset, .unset] []))
      refine own_go (fun _ hr => XS.iconst X132.here hx rfl (hb hby at_85) (XS.goto X132.here hx rfl (pc0 := 86) (pc' := 90) rfl (hb hby at_86) (by decide) (by decide) (XS.istore X132.here hx rfl (hb hby at_90) rfl (l' := #[.val (.int x0), .val (.int x1), .val (.int x2), .val (.int (1 : Int32)), .val (.ref r_V1_1), .val (.ref b126), .val (.int (12 : Int32)), .val (.int x2), .unset, .val (.int (1 : Int32)), .unset]) rfl (XS.iloadN X132.here hx rfl (hb hby at_92) rfl (XS.sipush X132.here hx rfl (hb hby at_93) hr))))) ?_
      show own_Go p e below _ (T132.setTop (mkF m 96 #[.val (.int x0), .val (.int x1), .val (.int x2), .val (.int (1 : Int32)), .val (.ref r_V1_1), .val (.ref b126), .val (.int (12 : Int32)), .val (.int x2), .unset, .val (.int (1 : Int32)), .unset] [(.int (133 : Int32)), (.int x2)]))
      have c216 : ¬ (x2 = (133 : Int32)) := by rw [c215]; decide
      refine own_go (fun _ hr => XS.icmpNo X132.here hx rfl (hb hby at_96) rfl (feq c216).1 hr) ?_
      show own_Go p e below _ (T132.setTop (mkF m 99 #[.val (.int x0), .val (.int x1), .val (.int x2), .val (.int (1 : Int32)), .val (.ref r_V1_1), .val (.ref b126), .val (.int (12 : Int32)), .val (.int x2), .unset, .val (.int (1 : Int32)), .unset] []))
      refine own_go (fun _ hr => XS.iloadN X132.here hx rfl (hb hby at_99) rfl (XS.sipush X132.here hx rfl (hb hby at_100) hr)) ?_
      show own_Go p e below _ (T132.setTop (mkF m 103 #[.val (.int x0), .val (.int x1), .val (.int x2), .val (.int (1 : Int32)), .val (.ref r_V1_1), .val (.ref b126), .val (.int (12 : Int32)), .val (.int x2), .unset, .val (.int (1 : Int32)), .unset] [(.int (8232 : Int32)), (.int x2)]))
      have c217 : ¬ (x2 = (8232 : Int32)) := by rw [c215]; decide
      refine own_go (fun _ hr => XS.icmpYes X132.here hx rfl (pc0 := 103) (pc' := 110) rfl (hb hby at_103) rfl (feq c217).2 (by decide) (by decide) hr) ?_
      show own_Go p e below _ (T132.setTop (mkF m 110 #[.val (.int x0), .val (.int x1), .val (.int x2), .val (.int (1 : Int32)), .val (.ref r_V1_1), .val (.ref b126), .val (.int (12 : Int32)), .val (.int x2), .unset, .val (.int (1 : Int32)), .unset] []))
      refine own_go (fun _ hr => XS.iconst X132.here hx rfl (hb hby at_110) (XS.istore X132.here hx rfl (hb hby at_111) rfl (l' := #[.val (.int x0), .val (.int x1), .val (.int x2), .val (.int (1 : Int32)), .val (.ref r_V1_1), .val (.ref b126), .val (.int (12 : Int32)), .val (.int x2), .unset, .val (.int (1 : Int32)), .val (.int (0 : Int32))]) rfl (XS.iload X132.here hx rfl (hb hby at_113) rfl (XS.ifYes X132.here hx rfl (pc0 := 115) (pc' := 127) rfl (hb hby at_115) rfl ((if0 _ _).trans (feq (by decide)).2) (by decide) (by decide) (XS.iconst X132.here hx rfl (hb hby at_127) (XS.goto X132.here hx rfl (pc0 := 128) (pc' := 132) rfl (hb hby at_128) (by decide) (by decide) (XS.istore X132.here hx rfl (hb hby at_132) rfl (l' := #[.val (.int x0), .val (.int x1), .val (.int x2), .val (.int (1 : Int32)), .val (.ref r_V1_1), .val (.ref b126), .val (.int (12 : Int32)), .val (.int x2), .val (.int (1 : Int32)), .val (.int (1 : Int32)), .val (.int (0 : Int32))]) rfl (XS.goto X132.here hx rfl (pc0 := 134) (pc' := 187) rfl (hb hby at_134) (by decide) (by decide) (XS.aload X132.here hx rfl (hb hby at_187) rfl rfl (XS.iload X132.here hx rfl (hb hby at_189) rfl hr)))))))))) ?_
      show own_Go p e below _ (T132.setTop (mkF m 191 #[.val (.int x0), .val (.int x1), .val (.int x2), .val (.int (1 : Int32)), .val (.ref r_V1_1), .val (.ref b126), .val (.int (12 : Int32)), .val (.int x2), .val (.int (1 : Int32)), .val (.int (1 : Int32)), .val (.int (0 : Int32))] [(.int x2), (.ref r_V1_1)]))
      have f219 := (((((S_V1_0.ext E126).wr W129).wr W130).wr W131).wr W132)
      have f220 := (((((E_V1_0.ext E126).wr W129).wr W130).wr W131).wr W132)
      have f221 := (((((S_V1_1.ext E126).wr W129).wr W130).wr W131).wr W132)
      have f222 := (((((E_V1_1.ext E126).wr W129).wr W130).wr W131).wr W132)
      have Z223 := (Nat.le_trans (Nat.le_trans (Nat.le_trans (Nat.le_trans (Nat.le_trans Z0 E126.1) (Nat.le_of_eq W129.size.symm)) (Nat.le_of_eq W130.size.symm)) (Nat.le_of_eq W131.size.symm)) (Nat.le_of_eq W132.size.symm))
      refine own_cv X132 hx hZ hown (notFace_of_selects (args := #[]) (mvT hZ (hw _ (own_m 8 rfl)))) (hw _ (own_m 5 rfl)) (hw _ (own_m 6 rfl)) (hw _ (own_m 8 rfl)) (hw _ (own_m 7 rfl)) (hw _ (own_m 1 rfl)) (hw _ (own_m 9 rfl)) (by decide) f222 (rm := { frames := 0, cells := 0, slots := 0, locals := 0 }) (rm_l1 l Z a0 hw [] x2 r_V1_0 r_V1_1 h132 n0 Z223 f219 f220 f221 f222 ne_V1_0_V1_1) (by decide) (W := 0) (by decide) (by decide) (by decide) e132 (by rw [hml]; rfl) (argsL := [(.int x2)]) (lenOf own_pd0 rfl) (rest := []) rfl rfl (Nat.le_of_eq rfl) (hb hby at_191) ?_
      intro _ T218 L218 X218 hQ218
      obtain ⟨rfl, N218q, e218⟩ := hQ218
      have N218 := Fr.app N132 N218q
      show own_Go p e below _ (T218.setTop (mkF m 194 #[.val (.int x0), .val (.int x1), .val (.int x2), .val (.int (1 : Int32)), .val (.ref r_V1_1), .val (.ref b126), .val (.int (12 : Int32)), .val (.int x2), .val (.int (1 : Int32)), .val (.int (1 : Int32)), .val (.int (0 : Int32))] [(.int (own_l1 x2))]))
      refine own_go (fun _ hr => XS.iload X218.here hx rfl (hb hby at_194) rfl hr) ?_
      show own_Go p e below _ (T218.setTop (mkF m 196 #[.val (.int x0), .val (.int x1), .val (.int x2), .val (.int (1 : Int32)), .val (.ref r_V1_1), .val (.ref b126), .val (.int (12 : Int32)), .val (.int x2), .val (.int (1 : Int32)), .val (.int (1 : Int32)), .val (.int (0 : Int32))] [(.int (1 : Int32)), (.int (own_l1 x2))]))
      have c224 : (own_l1 x2) = (1 : Int32) := by simp [own_l1, c205, c215, c216, c217]
      refine own_go (fun _ hr => XS.icmpNo X218.here hx rfl (hb hby at_196) rfl (teq c224).2 hr) ?_
      show own_Go p e below _ (T218.setTop (mkF m 199 #[.val (.int x0), .val (.int x1), .val (.int x2), .val (.int (1 : Int32)), .val (.ref r_V1_1), .val (.ref b126), .val (.int (12 : Int32)), .val (.int x2), .val (.int (1 : Int32)), .val (.int (1 : Int32)), .val (.int (0 : Int32))] []))
      refine own_go (fun _ hr => XS.iconst X218.here hx rfl (hb hby at_199) (XS.goto X218.here hx rfl (pc0 := 200) (pc' := 204) rfl (hb hby at_200) (by decide) (by decide) hr)) ?_
      show own_Go p e below _ (T218.setTop (mkF m 204 #[.val (.int x0), .val (.int x1), .val (.int x2), .val (.int (1 : Int32)), .val (.ref r_V1_1), .val (.ref b126), .val (.int (12 : Int32)), .val (.int x2), .val (.int (1 : Int32)), .val (.int (1 : Int32)), .val (.int (0 : Int32))] [(.int (1 : Int32))]))
      exact own_retN X218 hx hlk Bd.returns (t := .boolean) (by simp) (hb hby at_204) (by decide) (by decide) ⟨rfl, N218⟩
    refine own_go (fun _ hr => XS.icmpYes X132.here hx rfl (pc0 := 82) (pc' := 89) rfl (hb hby at_82) rfl (feq c215).2 (by decide) (by decide) hr) ?_
    show own_Go p e below _ (T132.setTop (mkF m 89 #[.val (.int x0), .val (.int x1), .val (.int x2), .val (.int (1 : Int32)), .val (.ref r_V1_1), .val (.ref b126), .val (.int (12 : Int32)), .val (.int x2), .unset, .unset, .unset] []))
    refine own_go (fun _ hr => XS.iconst X132.here hx rfl (hb hby at_89) (XS.istore X132.here hx rfl (hb hby at_90) rfl (l' := #[.val (.int x0), .val (.int x1), .val (.int x2), .val (.int (1 : Int32)), .val (.ref r_V1_1), .val (.ref b126), .val (.int (12 : Int32)), .val (.int x2), .unset, .val (.int (0 : Int32)), .unset]) rfl (XS.iloadN X132.here hx rfl (hb hby at_92) rfl (XS.sipush X132.here hx rfl (hb hby at_93) hr)))) ?_
    show own_Go p e below _ (T132.setTop (mkF m 96 #[.val (.int x0), .val (.int x1), .val (.int x2), .val (.int (1 : Int32)), .val (.ref r_V1_1), .val (.ref b126), .val (.int (12 : Int32)), .val (.int x2), .unset, .val (.int (0 : Int32)), .unset] [(.int (133 : Int32)), (.int x2)]))
    by_cases c225 : x2 = (133 : Int32)
    · refine own_go (fun _ hr => XS.icmpYes X132.here hx rfl (pc0 := 96) (pc' := 106) rfl (hb hby at_96) rfl (teq c225).1 (by decide) (by decide) hr) ?_
      show own_Go p e below _ (T132.setTop (mkF m 106 #[.val (.int x0), .val (.int x1), .val (.int x2), .val (.int (1 : Int32)), .val (.ref r_V1_1), .val (.ref b126), .val (.int (12 : Int32)), .val (.int x2), .unset, .val (.int (0 : Int32)), .unset] []))
      refine own_go (fun _ hr => XS.iconst X132.here hx rfl (hb hby at_106) (XS.goto X132.here hx rfl (pc0 := 107) (pc' := 111) rfl (hb hby at_107) (by decide) (by decide) (XS.istore X132.here hx rfl (hb hby at_111) rfl (l' := #[.val (.int x0), .val (.int x1), .val (.int x2), .val (.int (1 : Int32)), .val (.ref r_V1_1), .val (.ref b126), .val (.int (12 : Int32)), .val (.int x2), .unset, .val (.int (0 : Int32)), .val (.int (1 : Int32))]) rfl (XS.iload X132.here hx rfl (hb hby at_113) rfl (XS.ifNo X132.here hx rfl (hb hby at_115) rfl ((if0 _ _).trans (teq (by decide)).2) (XS.iloadN X132.here hx rfl (hb hby at_118) rfl (XS.ifNo X132.here hx rfl (hb hby at_119) rfl ((if0 _ _).trans (feq (by decide)).1) (XS.iload X132.here hx rfl (hb hby at_122) rfl (XS.ifNo X132.here hx rfl (hb hby at_124) rfl ((if0 _ _).trans (feq (by decide)).1) (XS.iconst X132.here hx rfl (hb hby at_127) hr)))))))))) ?_
      show own_Go p e below _ (T132.setTop (mkF m 128 #[.val (.int x0), .val (.int x1), .val (.int x2), .val (.int (1 : Int32)), .val (.ref r_V1_1), .val (.ref b126), .val (.int (12 : Int32)), .val (.int x2), .unset, .val (.int (0 : Int32)), .val (.int (1 : Int32))] [(.int (1 : Int32))]))
      refine own_go (fun _ hr => XS.goto X132.here hx rfl (pc0 := 128) (pc' := 132) rfl (hb hby at_128) (by decide) (by decide) (XS.istore X132.here hx rfl (hb hby at_132) rfl (l' := #[.val (.int x0), .val (.int x1), .val (.int x2), .val (.int (1 : Int32)), .val (.ref r_V1_1), .val (.ref b126), .val (.int (12 : Int32)), .val (.int x2), .val (.int (1 : Int32)), .val (.int (0 : Int32)), .val (.int (1 : Int32))]) rfl (XS.goto X132.here hx rfl (pc0 := 134) (pc' := 187) rfl (hb hby at_134) (by decide) (by decide) (XS.aload X132.here hx rfl (hb hby at_187) rfl rfl (XS.iload X132.here hx rfl (hb hby at_189) rfl hr))))) ?_
      show own_Go p e below _ (T132.setTop (mkF m 191 #[.val (.int x0), .val (.int x1), .val (.int x2), .val (.int (1 : Int32)), .val (.ref r_V1_1), .val (.ref b126), .val (.int (12 : Int32)), .val (.int x2), .val (.int (1 : Int32)), .val (.int (0 : Int32)), .val (.int (1 : Int32))] [(.int x2), (.ref r_V1_1)]))
      have f227 := (((((S_V1_0.ext E126).wr W129).wr W130).wr W131).wr W132)
      have f228 := (((((E_V1_0.ext E126).wr W129).wr W130).wr W131).wr W132)
      have f229 := (((((S_V1_1.ext E126).wr W129).wr W130).wr W131).wr W132)
      have f230 := (((((E_V1_1.ext E126).wr W129).wr W130).wr W131).wr W132)
      have Z231 := (Nat.le_trans (Nat.le_trans (Nat.le_trans (Nat.le_trans (Nat.le_trans Z0 E126.1) (Nat.le_of_eq W129.size.symm)) (Nat.le_of_eq W130.size.symm)) (Nat.le_of_eq W131.size.symm)) (Nat.le_of_eq W132.size.symm))
      refine own_cv X132 hx hZ hown (notFace_of_selects (args := #[]) (mvT hZ (hw _ (own_m 8 rfl)))) (hw _ (own_m 5 rfl)) (hw _ (own_m 6 rfl)) (hw _ (own_m 8 rfl)) (hw _ (own_m 7 rfl)) (hw _ (own_m 1 rfl)) (hw _ (own_m 9 rfl)) (by decide) f230 (rm := { frames := 0, cells := 0, slots := 0, locals := 0 }) (rm_l1 l Z a0 hw [] x2 r_V1_0 r_V1_1 h132 n0 Z231 f227 f228 f229 f230 ne_V1_0_V1_1) (by decide) (W := 0) (by decide) (by decide) (by decide) e132 (by rw [hml]; rfl) (argsL := [(.int x2)]) (lenOf own_pd0 rfl) (rest := []) rfl rfl (Nat.le_of_eq rfl) (hb hby at_191) ?_
      intro _ T226 L226 X226 hQ226
      obtain ⟨rfl, N226q, e226⟩ := hQ226
      have N226 := Fr.app N132 N226q
      show own_Go p e below _ (T226.setTop (mkF m 194 #[.val (.int x0), .val (.int x1), .val (.int x2), .val (.int (1 : Int32)), .val (.ref r_V1_1), .val (.ref b126), .val (.int (12 : Int32)), .val (.int x2), .val (.int (1 : Int32)), .val (.int (0 : Int32)), .val (.int (1 : Int32))] [(.int (own_l1 x2))]))
      refine own_go (fun _ hr => XS.iload X226.here hx rfl (hb hby at_194) rfl hr) ?_
      show own_Go p e below _ (T226.setTop (mkF m 196 #[.val (.int x0), .val (.int x1), .val (.int x2), .val (.int (1 : Int32)), .val (.ref r_V1_1), .val (.ref b126), .val (.int (12 : Int32)), .val (.int x2), .val (.int (1 : Int32)), .val (.int (0 : Int32)), .val (.int (1 : Int32))] [(.int (1 : Int32)), (.int (own_l1 x2))]))
      have c232 : (own_l1 x2) = (1 : Int32) := by simp [own_l1, c205, c215, c225]
      refine own_go (fun _ hr => XS.icmpNo X226.here hx rfl (hb hby at_196) rfl (teq c232).2 hr) ?_
      show own_Go p e below _ (T226.setTop (mkF m 199 #[.val (.int x0), .val (.int x1), .val (.int x2), .val (.int (1 : Int32)), .val (.ref r_V1_1), .val (.ref b126), .val (.int (12 : Int32)), .val (.int x2), .val (.int (1 : Int32)), .val (.int (0 : Int32)), .val (.int (1 : Int32))] []))
      refine own_go (fun _ hr => XS.iconst X226.here hx rfl (hb hby at_199) (XS.goto X226.here hx rfl (pc0 := 200) (pc' := 204) rfl (hb hby at_200) (by decide) (by decide) hr)) ?_
      show own_Go p e below _ (T226.setTop (mkF m 204 #[.val (.int x0), .val (.int x1), .val (.int x2), .val (.int (1 : Int32)), .val (.ref r_V1_1), .val (.ref b126), .val (.int (12 : Int32)), .val (.int x2), .val (.int (1 : Int32)), .val (.int (0 : Int32)), .val (.int (1 : Int32))] [(.int (1 : Int32))]))
      exact own_retN X226 hx hlk Bd.returns (t := .boolean) (by simp) (hb hby at_204) (by decide) (by decide) ⟨rfl, N226⟩
    refine own_go (fun _ hr => XS.icmpNo X132.here hx rfl (hb hby at_96) rfl (feq c225).1 hr) ?_
    show own_Go p e below _ (T132.setTop (mkF m 99 #[.val (.int x0), .val (.int x1), .val (.int x2), .val (.int (1 : Int32)), .val (.ref r_V1_1), .val (.ref b126), .val (.int (12 : Int32)), .val (.int x2), .unset, .val (.int (0 : Int32)), .unset] []))
    refine own_go (fun _ hr => XS.iloadN X132.here hx rfl (hb hby at_99) rfl (XS.sipush X132.here hx rfl (hb hby at_100) hr)) ?_
    show own_Go p e below _ (T132.setTop (mkF m 103 #[.val (.int x0), .val (.int x1), .val (.int x2), .val (.int (1 : Int32)), .val (.ref r_V1_1), .val (.ref b126), .val (.int (12 : Int32)), .val (.int x2), .unset, .val (.int (0 : Int32)), .unset] [(.int (8232 : Int32)), (.int x2)]))
    by_cases c233 : x2 = (8232 : Int32)
    · refine own_go (fun _ hr => XS.icmpNo X132.here hx rfl (hb hby at_103) rfl (teq c233).2 hr) ?_
      show own_Go p e below _ (T132.setTop (mkF m 106 #[.val (.int x0), .val (.int x1), .val (.int x2), .val (.int (1 : Int32)), .val (.ref r_V1_1), .val (.ref b126), .val (.int (12 : Int32)), .val (.int x2), .unset, .val (.int (0 : Int32)), .unset] []))
      refine own_go (fun _ hr => XS.iconst X132.here hx rfl (hb hby at_106) (XS.goto X132.here hx rfl (pc0 := 107) (pc' := 111) rfl (hb hby at_107) (by decide) (by decide) (XS.istore X132.here hx rfl (hb hby at_111) rfl (l' := #[.val (.int x0), .val (.int x1), .val (.int x2), .val (.int (1 : Int32)), .val (.ref r_V1_1), .val (.ref b126), .val (.int (12 : Int32)), .val (.int x2), .unset, .val (.int (0 : Int32)), .val (.int (1 : Int32))]) rfl (XS.iload X132.here hx rfl (hb hby at_113) rfl (XS.ifNo X132.here hx rfl (hb hby at_115) rfl ((if0 _ _).trans (teq (by decide)).2) (XS.iloadN X132.here hx rfl (hb hby at_118) rfl (XS.ifNo X132.here hx rfl (hb hby at_119) rfl ((if0 _ _).trans (feq (by decide)).1) (XS.iload X132.here hx rfl (hb hby at_122) rfl (XS.ifNo X132.here hx rfl (hb hby at_124) rfl ((if0 _ _).trans (feq (by decide)).1) (XS.iconst X132.here hx rfl (hb hby at_127) hr)))))))))) ?_
      show own_Go p e below _ (T132.setTop (mkF m 128 #[.val (.int x0), .val (.int x1), .val (.int x2), .val (.int (1 : Int32)), .val (.ref r_V1_1), .val (.ref b126), .val (.int (12 : Int32)), .val (.int x2), .unset, .val (.int (0 : Int32)), .val (.int (1 : Int32))] [(.int (1 : Int32))]))
      refine own_go (fun _ hr => XS.goto X132.here hx rfl (pc0 := 128) (pc' := 132) rfl (hb hby at_128) (by decide) (by decide) (XS.istore X132.here hx rfl (hb hby at_132) rfl (l' := #[.val (.int x0), .val (.int x1), .val (.int x2), .val (.int (1 : Int32)), .val (.ref r_V1_1), .val (.ref b126), .val (.int (12 : Int32)), .val (.int x2), .val (.int (1 : Int32)), .val (.int (0 : Int32)), .val (.int (1 : Int32))]) rfl (XS.goto X132.here hx rfl (pc0 := 134) (pc' := 187) rfl (hb hby at_134) (by decide) (by decide) (XS.aload X132.here hx rfl (hb hby at_187) rfl rfl (XS.iload X132.here hx rfl (hb hby at_189) rfl hr))))) ?_
      show own_Go p e below _ (T132.setTop (mkF m 191 #[.val (.int x0), .val (.int x1), .val (.int x2), .val (.int (1 : Int32)), .val (.ref r_V1_1), .val (.ref b126), .val (.int (12 : Int32)), .val (.int x2), .val (.int (1 : Int32)), .val (.int (0 : Int32)), .val (.int (1 : Int32))] [(.int x2), (.ref r_V1_1)]))
      have f235 := (((((S_V1_0.ext E126).wr W129).wr W130).wr W131).wr W132)
      have f236 := (((((E_V1_0.ext E126).wr W129).wr W130).wr W131).wr W132)
      have f237 := (((((S_V1_1.ext E126).wr W129).wr W130).wr W131).wr W132)
      have f238 := (((((E_V1_1.ext E126).wr W129).wr W130).wr W131).wr W132)
      have Z239 := (Nat.le_trans (Nat.le_trans (Nat.le_trans (Nat.le_trans (Nat.le_trans Z0 E126.1) (Nat.le_of_eq W129.size.symm)) (Nat.le_of_eq W130.size.symm)) (Nat.le_of_eq W131.size.symm)) (Nat.le_of_eq W132.size.symm))
      refine own_cv X132 hx hZ hown (notFace_of_selects (args := #[]) (mvT hZ (hw _ (own_m 8 rfl)))) (hw _ (own_m 5 rfl)) (hw _ (own_m 6 rfl)) (hw _ (own_m 8 rfl)) (hw _ (own_m 7 rfl)) (hw _ (own_m 1 rfl)) (hw _ (own_m 9 rfl)) (by decide) f238 (rm := { frames := 0, cells := 0, slots := 0, locals := 0 }) (rm_l1 l Z a0 hw [] x2 r_V1_0 r_V1_1 h132 n0 Z239 f235 f236 f237 f238 ne_V1_0_V1_1) (by decide) (W := 0) (by decide) (by decide) (by decide) e132 (by rw [hml]; rfl) (argsL := [(.int x2)]) (lenOf own_pd0 rfl) (rest := []) rfl rfl (Nat.le_of_eq rfl) (hb hby at_191) ?_
      intro _ T234 L234 X234 hQ234
      obtain ⟨rfl, N234q, e234⟩ := hQ234
      have N234 := Fr.app N132 N234q
      show own_Go p e below _ (T234.setTop (mkF m 194 #[.val (.int x0), .val (.int x1), .val (.int x2), .val (.int (1 : Int32)), .val (.ref r_V1_1), .val (.ref b126), .val (.int (12 : Int32)), .val (.int x2), .val (.int (1 : Int32)), .val (.int (0 : Int32)), .val (.int (1 : Int32))] [(.int (own_l1 x2))]))
      refine own_go (fun _ hr => XS.iload X234.here hx rfl (hb hby at_194) rfl hr) ?_
      show own_Go p e below _ (T234.setTop (mkF m 196 #[.val (.int x0), .val (.int x1), .val (.int x2), .val (.int (1 : Int32)), .val (.ref r_V1_1), .val (.ref b126), .val (.int (12 : Int32)), .val (.int x2), .val (.int (1 : Int32)), .val (.int (0 : Int32)), .val (.int (1 : Int32))] [(.int (1 : Int32)), (.int (own_l1 x2))]))
      have c240 : (own_l1 x2) = (1 : Int32) := by simp [own_l1, c205, c215, c225, c233]
      refine own_go (fun _ hr => XS.icmpNo X234.here hx rfl (hb hby at_196) rfl (teq c240).2 hr) ?_
      show own_Go p e below _ (T234.setTop (mkF m 199 #[.val (.int x0), .val (.int x1), .val (.int x2), .val (.int (1 : Int32)), .val (.ref r_V1_1), .val (.ref b126), .val (.int (12 : Int32)), .val (.int x2), .val (.int (1 : Int32)), .val (.int (0 : Int32)), .val (.int (1 : Int32))] []))
      refine own_go (fun _ hr => XS.iconst X234.here hx rfl (hb hby at_199) (XS.goto X234.here hx rfl (pc0 := 200) (pc' := 204) rfl (hb hby at_200) (by decide) (by decide) hr)) ?_
      show own_Go p e below _ (T234.setTop (mkF m 204 #[.val (.int x0), .val (.int x1), .val (.int x2), .val (.int (1 : Int32)), .val (.ref r_V1_1), .val (.ref b126), .val (.int (12 : Int32)), .val (.int x2), .val (.int (1 : Int32)), .val (.int (0 : Int32)), .val (.int (1 : Int32))] [(.int (1 : Int32))]))
      exact own_retN X234 hx hlk Bd.returns (t := .boolean) (by simp) (hb hby at_204) (by decide) (by decide) ⟨rfl, N234⟩
    refine own_go (fun _ hr => XS.icmpYes X132.here hx rfl (pc0 := 103) (pc' := 110) rfl (hb hby at_103) rfl (feq c233).2 (by decide) (by decide) hr) ?_
    show own_Go p e below _ (T132.setTop (mkF m 110 #[.val (.int x0), .val (.int x1), .val (.int x2), .val (.int (1 : Int32)), .val (.ref r_V1_1), .val (.ref b126), .val (.int (12 : Int32)), .val (.int x2), .unset, .val (.int (0 : Int32)), .unset] []))
    refine own_go (fun _ hr => XS.iconst X132.here hx rfl (hb hby at_110) (XS.istore X132.here hx rfl (hb hby at_111) rfl (l' := #[.val (.int x0), .val (.int x1), .val (.int x2), .val (.int (1 : Int32)), .val (.ref r_V1_1), .val (.ref b126), .val (.int (12 : Int32)), .val (.int x2), .unset, .val (.int (0 : Int32)), .val (.int (0 : Int32))]) rfl (XS.iload X132.here hx rfl (hb hby at_113) rfl (XS.ifNo X132.here hx rfl (hb hby at_115) rfl ((if0 _ _).trans (teq (by decide)).2) (XS.iloadN X132.here hx rfl (hb hby at_118) rfl (XS.ifNo X132.here hx rfl (hb hby at_119) rfl ((if0 _ _).trans (feq (by decide)).1) (XS.iload X132.here hx rfl (hb hby at_122) rfl (XS.ifYes X132.here hx rfl (pc0 := 124) (pc' := 131) rfl (hb hby at_124) rfl ((if0 _ _).trans (teq (by decide)).1) (by decide) (by decide) (XS.iconst X132.here hx rfl (hb hby at_131) (XS.istore X132.here hx rfl (hb hby at_132) rfl (l' := #[.val (.int x0), .val (.int x1), .val (.int x2), .val (.int (1 : Int32)), .val (.ref r_V1_1), .val (.ref b126), .val (.int (12 : Int32)), .val (.int x2), .val (.int (0 : Int32)), .val (.int (0 : Int32)), .val (.int (0 : Int32))]) rfl hr)))))))))) ?_
    show own_Go p e below _ (T132.setTop (mkF m 134 #[.val (.int x0), .val (.int x1), .val (.int x2), .val (.int (1 : Int32)), .val (.ref r_V1_1), .val (.ref b126), .val (.int (12 : Int32)), .val (.int x2), .val (.int (0 : Int32)), .val (.int (0 : Int32)), .val (.int (0 : Int32))] []))
    refine own_go (fun _ hr => XS.goto X132.here hx rfl (pc0 := 134) (pc' := 187) rfl (hb hby at_134) (by decide) (by decide) (XS.aload X132.here hx rfl (hb hby at_187) rfl rfl (XS.iload X132.here hx rfl (hb hby at_189) rfl hr))) ?_
    show own_Go p e below _ (T132.setTop (mkF m 191 #[.val (.int x0), .val (.int x1), .val (.int x2), .val (.int (1 : Int32)), .val (.ref r_V1_1), .val (.ref b126), .val (.int (12 : Int32)), .val (.int x2), .val (.int (0 : Int32)), .val (.int (0 : Int32)), .val (.int (0 : Int32))] [(.int x2), (.ref r_V1_1)]))
    have f242 := (((((S_V1_0.ext E126).wr W129).wr W130).wr W131).wr W132)
    have f243 := (((((E_V1_0.ext E126).wr W129).wr W130).wr W131).wr W132)
    have f244 := (((((S_V1_1.ext E126).wr W129).wr W130).wr W131).wr W132)
    have f245 := (((((E_V1_1.ext E126).wr W129).wr W130).wr W131).wr W132)
    have Z246 := (Nat.le_trans (Nat.le_trans (Nat.le_trans (Nat.le_trans (Nat.le_trans Z0 E126.1) (Nat.le_of_eq W129.size.symm)) (Nat.le_of_eq W130.size.symm)) (Nat.le_of_eq W131.size.symm)) (Nat.le_of_eq W132.size.symm))
    refine own_cv X132 hx hZ hown (notFace_of_selects (args := #[]) (mvT hZ (hw _ (own_m 8 rfl)))) (hw _ (own_m 5 rfl)) (hw _ (own_m 6 rfl)) (hw _ (own_m 8 rfl)) (hw _ (own_m 7 rfl)) (hw _ (own_m 1 rfl)) (hw _ (own_m 9 rfl)) (by decide) f245 (rm := { frames := 0, cells := 0, slots := 0, locals := 0 }) (rm_l1 l Z a0 hw [] x2 r_V1_0 r_V1_1 h132 n0 Z246 f242 f243 f244 f245 ne_V1_0_V1_1) (by decide) (W := 0) (by decide) (by decide) (by decide) e132 (by rw [hml]; rfl) (argsL := [(.int x2)]) (lenOf own_pd0 rfl) (rest := []) rfl rfl (Nat.le_of_eq rfl) (hb hby at_191) ?_
    intro _ T241 L241 X241 hQ241
    obtain ⟨rfl, N241q, e241⟩ := hQ241
    have N241 := Fr.app N132 N241q
    show own_Go p e below _ (T241.setTop (mkF m 194 #[.val (.int x0), .val (.int x1), .val (.int x2), .val (.int (1 : Int32)), .val (.ref r_V1_1), .val (.ref b126), .val (.int (12 : Int32)), .val (.int x2), .val (.int (0 : Int32)), .val (.int (0 : Int32)), .val (.int (0 : Int32))] [(.int (own_l1 x2))]))
    refine own_go (fun _ hr => XS.iload X241.here hx rfl (hb hby at_194) rfl hr) ?_
    show own_Go p e below _ (T241.setTop (mkF m 196 #[.val (.int x0), .val (.int x1), .val (.int x2), .val (.int (1 : Int32)), .val (.ref r_V1_1), .val (.ref b126), .val (.int (12 : Int32)), .val (.int x2), .val (.int (0 : Int32)), .val (.int (0 : Int32)), .val (.int (0 : Int32))] [(.int (0 : Int32)), (.int (own_l1 x2))]))
    have c247 : (own_l1 x2) = (0 : Int32) := by simp [own_l1, c205, c215, c225, c233]
    refine own_go (fun _ hr => XS.icmpNo X241.here hx rfl (hb hby at_196) rfl (teq c247).2 hr) ?_
    show own_Go p e below _ (T241.setTop (mkF m 199 #[.val (.int x0), .val (.int x1), .val (.int x2), .val (.int (1 : Int32)), .val (.ref r_V1_1), .val (.ref b126), .val (.int (12 : Int32)), .val (.int x2), .val (.int (0 : Int32)), .val (.int (0 : Int32)), .val (.int (0 : Int32))] []))
    refine own_go (fun _ hr => XS.iconst X241.here hx rfl (hb hby at_199) (XS.goto X241.here hx rfl (pc0 := 200) (pc' := 204) rfl (hb hby at_200) (by decide) (by decide) hr)) ?_
    show own_Go p e below _ (T241.setTop (mkF m 204 #[.val (.int x0), .val (.int x1), .val (.int x2), .val (.int (1 : Int32)), .val (.ref r_V1_1), .val (.ref b126), .val (.int (12 : Int32)), .val (.int x2), .val (.int (0 : Int32)), .val (.int (0 : Int32)), .val (.int (0 : Int32))] [(.int (1 : Int32))]))
    exact own_retN X241 hx hlk Bd.returns (t := .boolean) (by simp) (hb hby at_204) (by decide) (by decide) ⟨rfl, N241⟩
set_option maxRecDepth 65536 in
set_option maxHeartbeats 40000000 in
theorem comes_1 {Post : Tables → Env → Array Value → State → Outcome → State → Prop} (hpost : ∀ tb e args s v u, (limb_1_1.after args s (.returned v) u = true ∧ limb_1_2.after args s (.returned v) u = true ∧ True) → FrameEnd s (.returned v) u (Jvm.fieldLocs frame_1_writes args s ++ Jvm.arrayLocs frame_1_arrays args s ++ Jvm.staticLocs frame_1_statics s) 16 128 → Post tb e args s (.returned v) u) :
    ArmFor flags0 classFile x code maxLocals ret World_1 tables_1 room_1 Calls_1 rest_1 Pre_1 Post := by
  intro l hfl _ _ p e ha hc hk s m args below hf hA hF happ hP
  obtain ⟨hcalls, hrest, hpre⟩ := hP
  obtain ⟨-, -, -, hnamed, -, -, -, hat⟩ := (Spec.applies_iff hf).mp happ
  obtain ⟨hg, hn⟩ := and_e (Cond.before_iff.mp (show (Jvm.Cond.and given_1 narrow_1).before args s = true from hpre))
  obtain ⟨g1, g2⟩ := and_e hg
  obtain ⟨g3, g4⟩ := and_e g2
  obtain ⟨g5, g6⟩ := and_e g4
  obtain ⟨w0, w1, w2, rfl⟩ : ∃ w0 w1 w2 : Value, args = #[w0, w1, w2] := by
    have hs : args.size = 3 := by simpa [Cond.value, given_1] using g1
    obtain ⟨L⟩ := args
    match L, hs with
    | [w0, w1, w2], _ => exact ⟨w0, w1, w2, rfl⟩
  have hw := fun d (hd : d ∈ tables_1) => atoms_spec (ws := Jvm.Cond.code x code maxLocals ret :: tables_1) hat d (List.mem_cons_of_mem _ hd)
  have hfit : Fit s := fun {y c} hc i hi => by
    obtain ⟨ha, rfl⟩ := Array.getElem?_eq_some_iff.mp hc
    have q := List.all_eq_true.mp ((Array.all_eq_true_iff_forall_mem.mp hF) _ (Array.getElem_mem ha)) i (List.mem_range.mpr hi)
    simpa [Array.getElem?_eq_getElem hi] using q
  obtain ⟨i0, ei0⟩ := is_v g3
  obtain rfl : w0 = (.int i0) := Option.some.inj ei0
  obtain ⟨i1, ei1⟩ := is_v g5
  obtain rfl : w1 = (.int i1) := Option.some.inj ei1
  obtain ⟨i2, ei2⟩ := is_v g6
  obtain rfl : w2 = (.int i2) := Option.some.inj ei2
  obtain ⟨g7, g8⟩ := and_e hn
  obtain ⟨g9, g10⟩ := and_e g8
  obtain ⟨g11, g12⟩ := and_e g10
  obtain ⟨r_V1_0, er_V1_0⟩ := exa_v g7
  have S_V1_0 := Sta.start er_V1_0 (Or.inr ⟨(hw _ (own_m 1 rfl)), (hw _ (own_m 2 rfl))⟩)
  have E_V1_0 := Exa.start er_V1_0 g7
  obtain ⟨r_V1_1, er_V1_1⟩ := exa_v g9
  have S_V1_1 := Sta.start er_V1_1 (Or.inr ⟨(hw _ (own_m 1 rfl)), (hw _ (own_m 11 rfl))⟩)
  have E_V1_1 := Exa.start er_V1_1 g9
  have F_V1_0_ordinal := Fld.start ((fld_at er_V1_0).symm.trans (own_eq_int g11))
  have F_V1_1_ordinal := Fld.start ((fld_at er_V1_1).symm.trans (own_eq_int g12))
  have ne_V1_0_V1_1 : r_V1_0 ≠ r_V1_1 := Fld.ne F_V1_0_ordinal F_V1_1_ordinal (by first | decide | simp)
  obtain ⟨n, o, h1, h2, h3, _, L, rfl, ⟨rfl, N⟩, hq⟩ := rm_law l s _ hw tables_1 i0 i1 i2 r_V1_0 r_V1_1 s.heap s.heap.size (Nat.le_refl _) S_V1_0 E_V1_0 S_V1_1 E_V1_1 ne_V1_0_V1_1 p e ha hc hk s m _ below hf ((Spec.applies_iff_loose hf).mp happ).1 ⟨rfl, State.Warmed39.refl s, rfl⟩ trivial
  refine ⟨n, _, h1, h2, h3, hpost _ _ _ _ _ _ ⟨Cond.after_iff.mpr rfl, Cond.after_iff.mpr (eq_i res_at (Term.int_eval (1)) rfl), trivial⟩ ⟨hq.1, hq.2.1, (hq.2.2.sift fun y hy => Or.inr (N y hy)).mono (by decide) (by decide)⟩⟩
theorem main_1_1 : Claimed_1_1 := comes_1 fun _ _ _ _ _ _ h hF => ⟨h.1, hF⟩
theorem main_1_2 : Claimed_1_2 := comes_1 fun _ _ _ _ _ _ h hF => ⟨h.2.1, hF⟩
end Jvm.Pilot.@@N@@
namespace Jvm.Pilot.@@N@@
open Jvm Jvm.ClassFile Sem Op Lib Jvm.Free Jvm.Stand Jvm.Pilot.@@N@@.Jvm.D
/-! MADE BY PROGRAM (witnessworld.py) out of the Statement's table words and the real class files: 12 classes; the members and pool entries that the words name. The judged class is class 1, her method 1. -/
namespace start1
open Jvm.ClassFile
def u (s : String) : CpInfo := .utf8 (stringToUtf16 s)
/-- a pool by its gaps: so many unusable entries, then the entry; so many at the end -/
def gap : Nat → List CpInfo → List CpInfo
  | 0, r => r
  | n + 1, r => .unusable :: gap n r
def poolList (es : List (Nat × CpInfo)) (last : Nat) : List CpInfo := es.foldr (fun e r => gap e.1 (e.2 :: r)) (gap last [])
def pool (es : List (Nat × CpInfo)) (last : Nat) : Array CpInfo := ⟨poolList es last⟩
def fileOf (pool : Array CpInfo) (this : Nat) (attrs : Array Attribute := #[]) (ms : Array MethodInfo := #[]) (fl : Nat := 33) (sup : Nat := 0) (ifs : Array Nat := #[]) (fds : Array FieldInfo := #[]) : ClassFile where
  minorVersion := 0
  majorVersion := 65
  constantPool := pool
  accessFlags := fl
  thisClass := this
  superClass := sup
  interfaces := ifs
  fields := fds
  methods := ms
  attributes := attrs
def plain (name : String) (sup : Option ClassId) : Class where
  name := name
  kind := .ordinary
  loader := none
  accessFlags := 33
  super := sup
  interfaces := #[]
  cf := none
  fields := #[]
  methods := #[]
  instanceTypes := #[]
  staticTypes := #[]
  resolved := #[]
  callSites := []
  init := .initialized
  statics := none
  mirror := none

def pool0 : Array CpInfo := pool [(5, u "<init>"), (0, u "()V"), (1, .class_ 10), (1, u "java/lang/Object")] 113

def k0m0 : Method := { name := "<init>", desc := "()V", sig := { parameters := [], returnType := none }, accessFlags := 1, code := none }
/-- java/lang/Object -/
def k0 : Class := { plain "java/lang/Object" none with
  accessFlags := 33
  interfaces := #[]
  cf := some (fileOf pool0 8 #[] #[{ accessFlags := 1, nameIndex := 5, descriptorIndex := 6, attributes := #[] }] 33 0 #[] #[])
  fields := #[]
  methods := #[k0m0]
  instanceTypes := #[]
  staticTypes := #[]
  resolved := Array.replicate 124 none
  statics := none }

def pool1 : Array CpInfo := pool [(2, .class_ 4), (1, u "java/lang/Object"), (0, u "<init>"), (0, u "()V"), (0, .fieldref 8 9), (0, .class_ 10), (0, .nameAndType 11 12), (0, u "com/example/fitzroy/fitzroy/XmlVersion"), (0, u "V1_1"), (0, u "Lcom/example/fitzroy/fitzroy/XmlVersion;"), (0, .fieldref 8 14), (0, .nameAndType 15 12), (0, u "V1_0"), (0, .integer 2147483647), (0, .methodref 8 18), (0, .nameAndType 19 20), (0, u "endsLine"), (0, u "(I)Z"), (0, .class_ 22), (0, u "com/example/fitzroy/fitzroy/XmlVersionEndsLinePinLaw"), (2, u "law"), (0, u "(III)Z")] 5

def k1m0 : Method := { name := "<init>", desc := "()V", sig := { parameters := [], returnType := none }, accessFlags := 2, code := none }
def k1c1 : Code := { maxStack := 4, maxLocals := 11, code := code, exceptionTable := #[], attributes := #[] }
def k1m1 : Method := { name := "law", desc := "(III)Z", sig := { parameters := [.int, .int, .int], returnType := some .boolean }, accessFlags := 9, code := some k1c1 }
/-- com/example/fitzroy/fitzroy/XmlVersionEndsLinePinLaw -/
def k1 : Class := { plain "com/example/fitzroy/fitzroy/XmlVersionEndsLinePinLaw" (some 0) with
  accessFlags := 49
  interfaces := #[]
  cf := some (fileOf pool1 21 #[] #[{ accessFlags := 2, nameIndex := 5, descriptorIndex := 6, attributes := #[] }, { accessFlags := 9, nameIndex := 25, descriptorIndex := 26, attributes := #[] }] 49 2 #[] #[])
  fields := #[]
  methods := #[k1m0, k1m1]
  instanceTypes := #[]
  staticTypes := #[]
  resolved := Array.replicate 32 none
  statics := none }

def pool2 : Array CpInfo := pool [(1, .class_ 2), (0, u "java/lang/constant/Constable"), (0, .class_ 4), (0, u "java/lang/Object")] 6

/-- java/lang/constant/Constable -/
def k2 : Class := { plain "java/lang/constant/Constable" (some 0) with
  accessFlags := 1537
  interfaces := #[]
  cf := some (fileOf pool2 1 #[] #[] 1537 3 #[] #[])
  fields := #[]
  methods := #[]
  instanceTypes := #[]
  staticTypes := #[]
  resolved := Array.replicate 11 none
  statics := none }

def pool3 : Array CpInfo := pool [(1, .class_ 2), (0, u "java/lang/Comparable"), (0, .class_ 4), (0, u "java/lang/Object")] 7

/-- java/lang/Comparable -/
def k3 : Class := { plain "java/lang/Comparable" (some 0) with
  accessFlags := 1537
  interfaces := #[]
  cf := some (fileOf pool3 1 #[] #[] 1537 3 #[] #[])
  fields := #[]
  methods := #[]
  instanceTypes := #[]
  staticTypes := #[]
  resolved := Array.replicate 12 none
  statics := none }

def pool4 : Array CpInfo := pool [(1, .class_ 2), (0, u "java/io/Serializable"), (0, .class_ 4), (0, u "java/lang/Object")] 2

/-- java/io/Serializable -/
def k4 : Class := { plain "java/io/Serializable" (some 0) with
  accessFlags := 1537
  interfaces := #[]
  cf := some (fileOf pool4 1 #[] #[] 1537 3 #[] #[])
  fields := #[]
  methods := #[]
  instanceTypes := #[]
  staticTypes := #[]
  resolved := Array.replicate 7 none
  statics := none }

def pool5 : Array CpInfo := pool [(2, .class_ 4), (1, u "java/lang/Enum"), (0, u "name"), (0, u "Ljava/lang/String;"), (2, u "ordinal"), (0, u "I"), (1, .class_ 14), (1, u "java/lang/Object"), (4, u "hash"), (86, .class_ 108), (1, u "java/lang/Enum$EnumDesc"), (2, .class_ 112), (0, u "java/lang/constant/Constable"), (0, .class_ 114), (0, u "java/lang/Comparable"), (0, .class_ 116), (0, u "java/io/Serializable")] 87

/-- java/lang/Enum -/
def k5 : Class := { plain "java/lang/Enum" (some 0) with
  accessFlags := 1057
  interfaces := #[2, 3, 4]
  cf := some (fileOf pool5 2 #[.nestMembers #[106]] #[] 1057 12 #[111, 113, 115] #[{ accessFlags := 18, nameIndex := 5, descriptorIndex := 6, attributes := #[] }, { accessFlags := 18, nameIndex := 9, descriptorIndex := 10, attributes := #[] }, { accessFlags := 2, nameIndex := 19, descriptorIndex := 10, attributes := #[] }])
  fields := #[{ name := "name", type := (.object "java/lang/String"), accessFlags := 18, slot := 0, constantValue := 0 }, { name := "ordinal", type := .int, accessFlags := 18, slot := 1, constantValue := 0 }, { name := "hash", type := .int, accessFlags := 2, slot := 2, constantValue := 0 }]
  methods := #[]
  instanceTypes := #[(.object "java/lang/String"), .int, .int]
  staticTypes := #[]
  resolved := Array.replicate 204 none
  statics := none }

def pool6 : Array CpInfo := pool [(1, .class_ 2), (0, u "com/example/fitzroy/fitzroy/XmlVersion"), (2, u "V1_0"), (0, u "Lcom/example/fitzroy/fitzroy/XmlVersion;"), (0, .fieldref 1 8), (0, .nameAndType 9 6), (0, u "V1_1"), (2, u "$VALUES"), (0, u "[Lcom/example/fitzroy/fitzroy/XmlVersion;"), (6, .class_ 22), (1, u "java/lang/Enum"), (8, u "held"), (0, u "[I"), (2, u "referable"), (6, u "endsLine"), (0, u "(I)Z"), (14, u "NEXT_LINE"), (0, u "C"), (2, u "LINE_SEPARATOR")] 18

def k6c0 : Code := { maxStack := 2, maxLocals := 2, code := prog_20_method_6_code, exceptionTable := #[], attributes := #[] }
def k6m0 : Method := { name := "endsLine", desc := "(I)Z", sig := { parameters := [.int], returnType := some .boolean }, accessFlags := 0, code := some k6c0 }
/-- com/example/fitzroy/fitzroy/XmlVersion -/
def k6 : Class := { plain "com/example/fitzroy/fitzroy/XmlVersion" (some 5) with
  accessFlags := 16432
  interfaces := #[]
  cf := some (fileOf pool6 1 #[] #[{ accessFlags := 0, nameIndex := 42, descriptorIndex := 43, attributes := #[] }] 16432 20 #[] #[{ accessFlags := 16409, nameIndex := 5, descriptorIndex := 6, attributes := #[] }, { accessFlags := 16409, nameIndex := 9, descriptorIndex := 6, attributes := #[] }, { accessFlags := 26, nameIndex := 58, descriptorIndex := 59, attributes := #[] }, { accessFlags := 26, nameIndex := 62, descriptorIndex := 59, attributes := #[] }, { accessFlags := 18, nameIndex := 31, descriptorIndex := 32, attributes := #[] }, { accessFlags := 18, nameIndex := 35, descriptorIndex := 32, attributes := #[] }, { accessFlags := 4122, nameIndex := 12, descriptorIndex := 13, attributes := #[] }])
  fields := #[{ name := "V1_0", type := (.object "com/example/fitzroy/fitzroy/XmlVersion"), accessFlags := 16409, slot := 0, constantValue := 0 }, { name := "V1_1", type := (.object "com/example/fitzroy/fitzroy/XmlVersion"), accessFlags := 16409, slot := 1, constantValue := 0 }, { name := "NEXT_LINE", type := .char, accessFlags := 26, slot := 2, constantValue := 0 }, { name := "LINE_SEPARATOR", type := .char, accessFlags := 26, slot := 3, constantValue := 0 }, { name := "held", type := (.array .int), accessFlags := 18, slot := 3, constantValue := 0 }, { name := "referable", type := (.array .int), accessFlags := 18, slot := 4, constantValue := 0 }, { name := "$VALUES", type := (.array (.object "com/example/fitzroy/fitzroy/XmlVersion")), accessFlags := 4122, slot := 4, constantValue := 0 }]
  methods := #[k6m0]
  instanceTypes := #[(.object "java/lang/String"), .int, .int, (.array .int), (.array .int)]
  staticTypes := #[(.object "com/example/fitzroy/fitzroy/XmlVersion"), (.object "com/example/fitzroy/fitzroy/XmlVersion"), .char, .char, (.array (.object "com/example/fitzroy/fitzroy/XmlVersion"))]
  resolved := Array.replicate 81 none
  statics := some 0 }

def pool7 : Array CpInfo := pool [(1, u "java/lang/Cloneable"), (0, .class_ 1), (0, u "java/lang/Object"), (0, .class_ 3)] 3

/-- java/lang/Cloneable -/
def k7 : Class := { plain "java/lang/Cloneable" (some 0) with
  accessFlags := 1537
  interfaces := #[]
  cf := some (fileOf pool7 2 #[] #[] 1537 4 #[] #[])
  fields := #[]
  methods := #[]
  instanceTypes := #[]
  staticTypes := #[]
  resolved := Array.replicate 8 none
  statics := none }

/-- the primitive byte -/
def k8 : Class := { plain "byte" none with kind := .primitive 'B', accessFlags := 0x411 }
/-- [B -/
def k9 : Class := { plain "[B" (some 0) with kind := .array 8 .byte, interfaces := #[7, 4], accessFlags := 1041 }

/-- the primitive int -/
def k10 : Class := { plain "int" none with kind := .primitive 'I', accessFlags := 0x411 }
/-- [I -/
def k11 : Class := { plain "[I" (some 0) with kind := .array 10 .int, interfaces := #[7, 4], accessFlags := 1041 }

def heap : Heap := #[{ cls := 6, slots := #[.ref 1, .ref 2, .int 0, .int 0, .null], vm := .statics 6 },
  { cls := 6, slots := #[.null, .int 0, .int 0, .null, .null], vm := .none },
  { cls := 6, slots := #[.null, .int 1, .int 0, .null, .null], vm := .none }]
def classes : Array Class := #[k0, k1, k2, k3, k4, k5, k6, k7, k8, k9, k10, k11]
def interned : List (Array UInt16 × Addr) := []
def slotsUsed : Nat := 15
def theMethod : MethodId := ⟨1, 1⟩
def args0 : Array Value := #[.int 5, .int 5, .int 5]
def aboutOver (below : List Frame) : State where
  vm := { classes := classes, interned := interned.toArray }
  heap := heap
  slotsUsed := slotsUsed
  threads := #[{ frames := .invoking theMethod args0 :: below }]
def below0 : List Frame := [.native { method := ⟨0, 0⟩, args := #[] }]
def about1 : State := aboutOver below0
def p0 : Program := .bare "" "" ""
def e0 : Env := launch0.env 0 0 0
theorem w_frames : about1.frames = Frame.invoking theMethod args0 :: below0 := rfl
set_option maxRecDepth 65536 in
theorem w_args : argsFit about1.vm theMethod args0 = true := by decide +kernel
set_option maxRecDepth 65536 in
theorem w_heap : heapFits about1 = true := by decide +kernel
set_option maxRecDepth 65536 in
theorem w_runnable : about1.curStatus? = some .runnable := by decide +kernel
set_option maxRecDepth 65536 in
theorem w_alone : about1.alone = true := by decide +kernel
set_option maxRecDepth 65536 in
theorem w_named : about1.methodNamed? x = some theMethod := by decide +kernel
set_option maxRecDepth 65536 in
theorem w_hears : about1.hears theMethod below0 = true := by decide +kernel
set_option maxRecDepth 65536 in
theorem w_ripe : about1.ripe theMethod args0 below0 = true := by decide +kernel
theorem w_running : about1.status = .running := rfl
set_option maxRecDepth 65536 in
theorem w_room : about1.hasRoom e0.platform room_1 = true :=
  launch0.hasRoom_least _ room_1 (by decide +kernel) (by decide +kernel) (by decide +kernel) (by decide +kernel) (by decide +kernel) (by decide +kernel)
theorem allAtoms_all (ts : List Jvm.Cond) (a : Array Jvm.Value) (st : Jvm.State) : (allAtoms ts).before a st = ts.all (fun c => c.before a st) := by
  induction ts with
  | nil => rfl
  | cons c t ih =>
    show (Jvm.Cond.and c (allAtoms t)).before a st = _
    rw [Jvm.Cond.before_and, ih, List.all_cons]
def words1 : List Jvm.Cond := Jvm.Cond.code x code maxLocals ret :: tables_1
/-- a 'code' word, met by the world's own term for the bytes: nothing is compared byte by byte -/
theorem code_word {y : MethodName} {bytes : ByteArray} {mx : Nat} {rt : Option FieldType} {a : Array Value} {s : State} {m : MethodId} {meth : Method} {c : Code} (h1 : s.methodNamed? y = some m) (h2 : s.vm.method? m = some meth) (h3 : meth.code = some c) (h4 : c.code = bytes)
    (h5 : (c.maxLocals == mx && c.exceptionTable.isEmpty && decide (c.maxStack ≤ mostOperands) && decide (meth.sig.returnType = rt) && !meth.locks && decide (parseMethodDescriptor y.desc = some meth.sig)) = true) : (Jvm.Cond.code y bytes mx rt).before a s = true := by
  simp only [Bool.and_eq_true, beq_iff_eq, Bool.not_eq_true', decide_eq_true_eq] at h5
  obtain ⟨⟨⟨⟨⟨g1, g2⟩, g3⟩, g4⟩, g5⟩, g6⟩ := h5
  simp [Cond.before, Cond.holds, Cond.value, h1, h2, h3, h4, g1, g2, g3, g4, g5, g6]
def isCode : Jvm.Cond → Bool
  | .code _ _ _ _ => true
  | _ => false
theorem all_split {L : List Jvm.Cond} {P : Jvm.Cond → Bool} (h1 : L.all (fun c => isCode c || P c) = true) (h2 : ∀ c ∈ L.filter isCode, P c = true) : L.all P = true := by
  refine List.all_eq_true.mpr fun c hc => ?_
  have h := List.all_eq_true.mp h1 c hc
  rcases Bool.eq_false_or_eq_true (isCode c) with hi | hi
  · exact h2 c (List.mem_filter.mpr ⟨hc, hi⟩)
  · simpa [hi] using h
set_option maxRecDepth 65536 in
theorem w_c0 : (Jvm.Cond.code x code maxLocals ret).before args0 about1 = true := code_word (m := ⟨1, 1⟩) (meth := k1m1) (c := k1c1) (by decide +kernel) rfl rfl rfl (by decide +kernel)
set_option maxRecDepth 65536 in
theorem w_c1 : (Jvm.Cond.code ({ cls := "com/example/fitzroy/fitzroy/XmlVersion", name := "endsLine", desc := "(I)Z" } : Jvm.MethodName) prog_20_method_6_code (2 : Nat) (Option.some Jvm.ClassFile.FieldType.boolean)).before args0 about1 = true := code_word (m := ⟨6, 0⟩) (meth := k6m0) (c := k6c0) (by decide +kernel) rfl rfl rfl (by decide +kernel)
def codes1 : List Jvm.Cond := [Jvm.Cond.code x code maxLocals ret, Jvm.Cond.code ({ cls := "com/example/fitzroy/fitzroy/XmlVersion", name := "endsLine", desc := "(I)Z" } : Jvm.MethodName) prog_20_method_6_code (2 : Nat) (Option.some Jvm.ClassFile.FieldType.boolean)]
set_option maxRecDepth 65536 in
theorem codes_eq : words1.filter isCode = codes1 := rfl
theorem w_codes : ∀ c ∈ words1.filter isCode, c.before args0 about1 = true := by
  rw [codes_eq]
  intro c hc
  simp only [codes1, List.mem_cons, List.not_mem_nil, or_false] at hc
  rcases hc with rfl | rfl
  · exact w_c0
  · exact w_c1
set_option maxRecDepth 65536 in
theorem w_t1 : words1.all (fun c => isCode c || c.before args0 about1) = true := by decide +kernel
theorem w_tables : (allAtoms (Jvm.Cond.code x code maxLocals ret :: tables_1)).before args0 about1 = true := by
  rw [allAtoms_all]
  show words1.all (fun c => c.before args0 about1) = true
  refine all_split ?_ w_codes
  rw [w_t1]
set_option maxRecDepth 65536 in
theorem w_case : (Jvm.Cond.and given_1 narrow_1).before args0 about1 = true := by decide +kernel
theorem w_applies : (headSpec (Jvm.Cond.code x code maxLocals ret :: tables_1) room_1).applies x e0.platform about1 = true :=
  (Spec.applies_iff w_frames).mpr ⟨w_running, w_runnable, w_alone, w_named, w_hears, w_ripe, w_room, w_tables⟩
theorem atStart : AtStart classFile x code maxLocals ret World_1 tables_1 room_1 Calls_1 rest_1 Pre_1 launch0 p0 e0 about1 theMethod args0 below0 :=
  ⟨lists_1, trivial, launch0.admits_env _ _ _, launch0.least_env, fairChoices_fair.cas, fairChoices_fair.clock, w_frames, w_args, w_heap, w_applies, trivial, trivial, w_case⟩
end start1
theorem witness_1 : WitnessClaimed_1 := ⟨start1.p0, start1.e0, start1.about1, start1.theMethod, start1.args0, start1.below0, start1.atStart⟩
end Jvm.Pilot.@@N@@
