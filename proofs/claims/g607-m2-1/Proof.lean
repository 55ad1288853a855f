import JvmDerived
import JvmDerived.Pilot.@@N@@Statement
import JvmDerived.Pilot.@@N@@Code
set_option linter.unusedVariables false
set_option linter.unusedSimpArgs false
namespace Jvm.RoadKit
open Sem ClassFile Op Lib Jvm.Stand Jvm.Free Jvm.LawKit
section Own
variable {p : Program} {l : Launch} {e : Env} {R : Room} {s : State} {m : MethodId} {args : Array Value} {below : List Frame} {meth : Method} {c : Code} {T : State} {locs : List Loc} {cells slots : Nat}
/-- from S the run comes to an end of which K holds -/
def own_Go (p : Program) (e : Env) (below : List Frame) (K : State → Outcome → Prop) (S : State) : Prop := ∃ t o, Steps p.tables e below S t ∧ t.status = .running ∧ Ended t below o ∧ K t o
def own_K (s : State) (Q : Option Value → Heap → List Loc → Prop) (k n : Nat) (t : State) (o : Outcome) : Prop := ∃ v L, o = .returned v ∧ Q v t.heap L ∧ FrameEnd s o t L k n
theorem own_go {K : State → Outcome → Prop} {S S' : State} (h : ∀ t, Steps p.tables e below S' t → Steps p.tables e below S t) (g : own_Go p e below K S') : own_Go p e below K S := by
  obtain ⟨t, o, h1, h2⟩ := g; exact ⟨t, o, h t h1, h2⟩
theorem own_via {K : State → Outcome → Prop} {S S' : State} (h : Steps p.tables e below S S') (g : own_Go p e below K S') : own_Go p e below K S := by
  obtain ⟨t, o, h1, h2⟩ := g; exact ⟨t, o, h.trans h1, h2⟩
variable {Q : Option Value → Heap → List Loc → Prop} {k n : Nat}
theorem own_end (X : Stand p l e R s m args below meth c T locs cells slots) {v : Option Value} (hlk : meth.locks = false) (hv : meth.sig.returnType = none → v = none) (hk : cells ≤ k) (hn : slots ≤ n) (hQ : Q v T.heap locs) {S : State}
    (st : ∀ fs, (∀ (f : JFrame) (acts : List Action), f.method = m → f.locked = none → f.entered = [] → (doReturn e (T.setTop f) acts v).1 = T.setFrames fs) → Steps p.tables e below S (T.setFrames fs)) : own_Go p e below (own_K s Q k n) S := by
  obtain ⟨fs, hr, hrun, hended, hW, hsame⟩ := X.leave hv hlk
  exact ⟨_, _, st fs hr, hrun, hended, v, locs, rfl, hQ, ⟨_, rfl⟩, hW, hsame.mono hk hn⟩
theorem own_ret0 (X : Stand p l e R s m args below meth c T locs cells slots) (hx : p.tables.exec = Jvm.exec) (hlk : meth.locks = false) (hret : meth.sig.returnType = none) {pc : Nat} {Ls : Array Slot} (hd : decode c.code pc = .ok (.return_, 1)) (hk : cells ≤ k) (hn : slots ≤ n) (hQ : Q none T.heap locs) :
    own_Go p e below (own_K s Q k n) (T.setTop (mkF m pc Ls [])) := own_end X hlk (fun _ => rfl) hk hn hQ fun _ hr => X.returnOut hx hret hd hr
theorem own_retN (X : Stand p l e R s m args below meth c T locs cells slots) (hx : p.tables.exec = Jvm.exec) (hlk : meth.locks = false) {t : FieldType} (hret : meth.sig.returnType = some t) (ht : t = .boolean ∨ t = .byte ∨ t = .char ∨ t = .short) {pc : Nat} {Ls : Array Slot} {z : Int32} {rest : List Value} (hd : decode c.code pc = .ok (.ireturn, 1)) (hk : cells ≤ k) (hn : slots ≤ n) (hQ : Q (some (.int (nar t z))) T.heap locs) :
    own_Go p e below (own_K s Q k n) (T.setTop (mkF m pc Ls (.int z :: rest))) := own_end X hlk (fun h => by rw [hret] at h; cases h) hk hn hQ fun _ hr => retN X hx hret ht hd hr
theorem own_retI (X : Stand p l e R s m args below meth c T locs cells slots) (hx : p.tables.exec = Jvm.exec) (hlk : meth.locks = false) (hret : meth.sig.returnType = some .int) {pc : Nat} {Ls : Array Slot} {z : Int32} {rest : List Value} (hd : decode c.code pc = .ok (.ireturn, 1)) (hk : cells ≤ k) (hn : slots ≤ n) (hQ : Q (some (.int z)) T.heap locs) :
    own_Go p e below (own_K s Q k n) (T.setTop (mkF m pc Ls (.int z :: rest))) := own_end X hlk (fun h => by rw [hret] at h; cases h) hk hn hQ fun _ hr => retOut X hx hret rfl (Or.inl ⟨rfl, Or.inl rfl, z, rfl⟩) hd hr
theorem own_retJ (X : Stand p l e R s m args below meth c T locs cells slots) (hx : p.tables.exec = Jvm.exec) (hlk : meth.locks = false) (hret : meth.sig.returnType = some .long) {pc : Nat} {Ls : Array Slot} {z : Int64} {rest : List Value} (hd : decode c.code pc = .ok (.lreturn, 1)) (hk : cells ≤ k) (hn : slots ≤ n) (hQ : Q (some (.long z)) T.heap locs) :
    own_Go p e below (own_K s Q k n) (T.setTop (mkF m pc Ls (.long z :: rest))) := own_end X hlk (fun h => by rw [hret] at h; cases h) hk hn hQ fun _ hr => retOut X hx hret rfl (Or.inr (Or.inl ⟨rfl, rfl, z, rfl⟩)) hd hr
theorem own_retR (X : Stand p l e R s m args below meth c T locs cells slots) (hx : p.tables.exec = Jvm.exec) (hlk : meth.locks = false) {t : FieldType} (hret : meth.sig.returnType = some t) (ht : t.isReference = true) {pc : Nat} {Ls : Array Slot} {w : Value} {rest : List Value} (hw : w.isRef = true) (hd : decode c.code pc = .ok (.areturn, 1)) (hk : cells ≤ k) (hn : slots ≤ n) (hQ : Q (some w) T.heap locs) :
    own_Go p e below (own_K s Q k n) (T.setTop (mkF m pc Ls (w :: rest))) := own_end X hlk (fun h => by rw [hret] at h; cases h) hk hn hQ fun _ hr => retOut X hx hret (by cases t <;> first | rfl | cases ht) (Or.inr (Or.inr (Or.inr (Or.inr ⟨rfl, ht, hw⟩)))) hd hr
section Arrays
variable {Z : State} {h : Heap} {a : Addr} {k : ClassId} {ty : FieldType} {z : Int32} {vs : List Value} {dv : Value}
theorem own_iaload {g : JFrame} {target : State} (X : Stand p l e R s m args below meth c T locs cells slots) (hx : p.tables.exec = Jvm.exec) (hZ : Z.Warmed39 s.vm) (eT : T.heap = h) (F : Arv Z h a k .int z vs dv) (j : Int32) (v : Value) (hj : ¬ j < 0 ∧ j < z) (hat : vs.getD j.toNatClampNeg dv = v) (hg : g.method = m) {rest : List Value} (hs : g.stack = .int j :: .ref a :: rest) (hd : decode c.code g.pc = .ok (.iaload, 1))
    (hr : Steps p.tables e below (T.setTop { g with pc := g.pc + 1, stack := v :: rest }) target) : Steps p.tables e below (T.setTop g) target := by
  obtain ⟨cl, A, q, S, N, H, G⟩ := F
  have hi := inb_of S hj
  exact X.iaload hx (j := j) (v := v) (by rw [eT]; exact A.1) (State.isArrayOf_alike hZ.alike A.2.1) A.2.2 hi (Has.at H hi hat) hg hs hd _ hr
theorem own_caload {g : JFrame} {target : State} (X : Stand p l e R s m args below meth c T locs cells slots) (hx : p.tables.exec = Jvm.exec) (hZ : Z.Warmed39 s.vm) (eT : T.heap = h) (F : Arv Z h a k .char z vs dv) (j : Int32) (v : Value) (hj : ¬ j < 0 ∧ j < z) (hat : vs.getD j.toNatClampNeg dv = v) (hg : g.method = m) {rest : List Value} (hs : g.stack = .int j :: .ref a :: rest) (hd : decode c.code g.pc = .ok (.caload, 1))
    (hr : Steps p.tables e below (T.setTop { g with pc := g.pc + 1, stack := v :: rest }) target) : Steps p.tables e below (T.setTop g) target := by
  obtain ⟨cl, A, q, S, N, H, G⟩ := F
  have hi := inb_of S hj
  exact X.caload hx (j := j) (v := v) (by rw [eT]; exact A.1) (State.isArrayOf_alike hZ.alike A.2.1) A.2.2 hi (Has.at H hi hat) hg hs hd _ hr
theorem own_saload {g : JFrame} {target : State} (X : Stand p l e R s m args below meth c T locs cells slots) (hx : p.tables.exec = Jvm.exec) (hZ : Z.Warmed39 s.vm) (eT : T.heap = h) (F : Arv Z h a k .short z vs dv) (j : Int32) (v : Value) (hj : ¬ j < 0 ∧ j < z) (hat : vs.getD j.toNatClampNeg dv = v) (hg : g.method = m) {rest : List Value} (hs : g.stack = .int j :: .ref a :: rest) (hd : decode c.code g.pc = .ok (.saload, 1))
    (hr : Steps p.tables e below (T.setTop { g with pc := g.pc + 1, stack := v :: rest }) target) : Steps p.tables e below (T.setTop g) target := by
  obtain ⟨cl, A, q, S, N, H, G⟩ := F
  have hi := inb_of S hj
  exact X.saload hx (j := j) (v := v) (by rw [eT]; exact A.1) (State.isArrayOf_alike hZ.alike A.2.1) A.2.2 hi (Has.at H hi hat) hg hs hd _ hr
theorem own_baload {g : JFrame} {target : State} (X : Stand p l e R s m args below meth c T locs cells slots) (hx : p.tables.exec = Jvm.exec) (hZ : Z.Warmed39 s.vm) (eT : T.heap = h) (F : Arv Z h a k .byte z vs dv) (j : Int32) (v : Value) (hj : ¬ j < 0 ∧ j < z) (hat : vs.getD j.toNatClampNeg dv = v) (hg : g.method = m) {rest : List Value} (hs : g.stack = .int j :: .ref a :: rest) (hd : decode c.code g.pc = .ok (.baload, 1))
    (hr : Steps p.tables e below (T.setTop { g with pc := g.pc + 1, stack := v :: rest }) target) : Steps p.tables e below (T.setTop g) target := by
  obtain ⟨cl, A, q, S, N, H, G⟩ := F
  have hi := inb_of S hj
  exact X.baloadBytes hx (j := j) (v := v) (by rw [eT]; exact A.1) (State.isArrayOf_alike hZ.alike A.2.1) A.2.2 hi (Has.at H hi hat) hg hs hd _ hr
theorem own_zaload {g : JFrame} {target : State} (X : Stand p l e R s m args below meth c T locs cells slots) (hx : p.tables.exec = Jvm.exec) (hZ : Z.Warmed39 s.vm) (eT : T.heap = h) (F : Arv Z h a k .boolean z vs dv) (j : Int32) (v : Value) (hj : ¬ j < 0 ∧ j < z) (hat : vs.getD j.toNatClampNeg dv = v) (hg : g.method = m) {rest : List Value} (hs : g.stack = .int j :: .ref a :: rest) (hd : decode c.code g.pc = .ok (.baload, 1))
    (hr : Steps p.tables e below (T.setTop { g with pc := g.pc + 1, stack := v :: rest }) target) : Steps p.tables e below (T.setTop g) target := by
  obtain ⟨cl, A, q, S, N, H, G⟩ := F
  have hi := inb_of S hj
  exact X.baloadBooleans hx (j := j) (v := v) (by rw [eT]; exact A.1) (State.isArrayOf_alike hZ.alike A.2.1) A.2.2 hi (Has.at H hi hat) hg hs hd _ hr
theorem own_laload {g : JFrame} {target : State} (X : Stand p l e R s m args below meth c T locs cells slots) (hx : p.tables.exec = Jvm.exec) (hZ : Z.Warmed39 s.vm) (eT : T.heap = h) (F : Arv Z h a k .long z vs dv) (j : Int32) (v : Value) (hj : ¬ j < 0 ∧ j < z) (hat : vs.getD j.toNatClampNeg dv = v) (hg : g.method = m) {rest : List Value} (hs : g.stack = .int j :: .ref a :: rest) (hd : decode c.code g.pc = .ok (.laload, 1))
    (hr : Steps p.tables e below (T.setTop { g with pc := g.pc + 1, stack := v :: rest }) target) : Steps p.tables e below (T.setTop g) target := by
  obtain ⟨cl, A, q, S, N, H, G⟩ := F
  have hi := inb_of S hj
  exact X.laload hx (j := j) (v := v) (by rw [eT]; exact A.1) (State.isArrayOf_alike hZ.alike A.2.1) A.2.2 hi (Has.at H hi hat) hg hs hd _ hr
theorem own_aaload {g : JFrame} {target : State} (X : Stand p l e R s m args below meth c T locs cells slots) (hx : p.tables.exec = Jvm.exec) (hZ : Z.Warmed39 s.vm) (eT : T.heap = h) (F : Arv Z h a k ty z vs dv) (j : Int32) (v : Value) (hj : ¬ j < 0 ∧ j < z) (hat : vs.getD j.toNatClampNeg dv = v) (hty : ty.isReference = true) (hg : g.method = m) {rest : List Value} (hs : g.stack = .int j :: .ref a :: rest) (hd : decode c.code g.pc = .ok (.aaload, 1))
    (hr : Steps p.tables e below (T.setTop { g with pc := g.pc + 1, stack := v :: rest }) target) : Steps p.tables e below (T.setTop g) target := by
  obtain ⟨cl, A, q, S, N, H, G⟩ := F
  have hi := inb_of S hj
  exact X.aaload hx (j := j) (v := v) (by rw [eT]; exact A.1) (State.isArrayOf_alike hZ.alike A.2.1) hty A.2.2 hi (Has.at H hi hat) hg hs hd _ hr
theorem own_alen {g : JFrame} {target : State} (X : Stand p l e R s m args below meth c T locs cells slots) (hx : p.tables.exec = Jvm.exec) (hZ : Z.Warmed39 s.vm) (eT : T.heap = h) (F : Arv Z h a k ty z vs dv) (hg : g.method = m) {rest : List Value} (hs : g.stack = .ref a :: rest) (hd : decode c.code g.pc = .ok (.arraylength, 1))
    (hr : Steps p.tables e below (T.setTop { g with pc := g.pc + 1, stack := .int z :: rest }) target) : Steps p.tables e below (T.setTop g) target := by
  obtain ⟨cl, A, q, S, N, -, -⟩ := F
  exact X.arraylength hx (by rw [eT]; exact A.1) (State.isArrayOf_alike hZ.alike A.2.1) hg hs hd _ (by rw [len_of S N]; exact hr)
theorem own_stI {K : State → Outcome → Prop} {n0 : Nat} (X : Stand p l e R s m args below meth c T locs cells slots) (hx : p.tables.exec = Jvm.exec) (hZ : Z.Warmed39 s.vm) (eT : T.heap = h) (F : Arv Z h a k .int z vs dv) (j : Int32) (x : Int32) (i : Nat) (hj : ¬ j < 0 ∧ j < z) (hi : j.toNatClampNeg = i) (hl : i < vs.length) (vs' : List Value) (hv : vs.set i (.int x) = vs') (N : Fr n0 locs) (ge : n0 ≤ a) {pc : Nat} {Ls : Array Slot} {rest : List Value} (hd : decode c.code pc = .ok (.iastore, 1))
    (kk : ∀ (T' : State) (h' : Heap) (L' : List Loc), Stand p l e R s m args below meth c T' L' cells slots → T'.heap = h' → Wr h h' a i (.int x) → Fr n0 L' → Arv Z h' a k .int z vs' dv → own_Go p e below K (T'.setTop (mkF m (pc + 1) Ls rest))) : own_Go p e below K (T.setTop (mkF m pc Ls (.int x :: .int j :: .ref a :: rest))) := by
  obtain ⟨cl, A, q, S, M, H, G⟩ := F
  subst hi; subst hv
  obtain ⟨T', h', X', e', W, st⟩ := stI X hx hZ eT A (j := j) (inb_of S hj) (g := mkF m pc Ls (.int x :: .int j :: .ref a :: rest)) rfl rfl hd
  exact own_go st (kk T' h' _ X' e' W (Fr.snoc X' N ge) (Arv.set A q S M H G rfl W _ rfl hl))
theorem own_stJ {K : State → Outcome → Prop} {n0 : Nat} (X : Stand p l e R s m args below meth c T locs cells slots) (hx : p.tables.exec = Jvm.exec) (hZ : Z.Warmed39 s.vm) (eT : T.heap = h) (F : Arv Z h a k .long z vs dv) (j : Int32) (x : Int64) (i : Nat) (hj : ¬ j < 0 ∧ j < z) (hi : j.toNatClampNeg = i) (hl : i < vs.length) (vs' : List Value) (hv : vs.set i (.long x) = vs') (N : Fr n0 locs) (ge : n0 ≤ a) {pc : Nat} {Ls : Array Slot} {rest : List Value} (hd : decode c.code pc = .ok (.lastore, 1))
    (kk : ∀ (T' : State) (h' : Heap) (L' : List Loc), Stand p l e R s m args below meth c T' L' cells slots → T'.heap = h' → Wr h h' a i (.long x) → Fr n0 L' → Arv Z h' a k .long z vs' dv → own_Go p e below K (T'.setTop (mkF m (pc + 1) Ls rest))) : own_Go p e below K (T.setTop (mkF m pc Ls (.long x :: .int j :: .ref a :: rest))) := by
  obtain ⟨cl, A, q, S, M, H, G⟩ := F
  subst hi; subst hv
  obtain ⟨T', h', X', e', W, st⟩ := stJ X hx hZ eT A (j := j) (inb_of S hj) (g := mkF m pc Ls (.long x :: .int j :: .ref a :: rest)) rfl rfl hd
  exact own_go st (kk T' h' _ X' e' W (Fr.snoc X' N ge) (Arv.set A q S M H G rfl W _ rfl hl))
theorem own_stB {K : State → Outcome → Prop} {n0 : Nat} (X : Stand p l e R s m args below meth c T locs cells slots) (hx : p.tables.exec = Jvm.exec) (hZ : Z.Warmed39 s.vm) (eT : T.heap = h) (F : Arv Z h a k .byte z vs dv) (j : Int32) (x x' : Int32) (i : Nat) (hj : ¬ j < 0 ∧ j < z) (hi : j.toNatClampNeg = i) (hl : i < vs.length) (hn : nar .byte x = x') (vs' : List Value) (hv : vs.set i (.int x') = vs') (N : Fr n0 locs) (ge : n0 ≤ a) {pc : Nat} {Ls : Array Slot} {rest : List Value} (hd : decode c.code pc = .ok (.bastore, 1))
    (kk : ∀ (T' : State) (h' : Heap) (L' : List Loc), Stand p l e R s m args below meth c T' L' cells slots → T'.heap = h' → Wr h h' a i (.int x') → Fr n0 L' → Arv Z h' a k .byte z vs' dv → own_Go p e below K (T'.setTop (mkF m (pc + 1) Ls rest))) : own_Go p e below K (T.setTop (mkF m pc Ls (.int x :: .int j :: .ref a :: rest))) := by
  obtain ⟨cl, A, q, S, M, H, G⟩ := F
  subst hn; subst hi; subst hv
  obtain ⟨T', h', X', e', W, st⟩ := stB X hx hZ eT A (j := j) (inb_of S hj) (g := mkF m pc Ls (.int x :: .int j :: .ref a :: rest)) rfl rfl hd
  exact own_go st (kk T' h' _ X' e' W (Fr.snoc X' N ge) (Arv.set A q S M H G (fits_nar_byte _) W _ rfl hl))
theorem own_stZ {K : State → Outcome → Prop} {n0 : Nat} (X : Stand p l e R s m args below meth c T locs cells slots) (hx : p.tables.exec = Jvm.exec) (hZ : Z.Warmed39 s.vm) (eT : T.heap = h) (F : Arv Z h a k .boolean z vs dv) (j : Int32) (x x' : Int32) (i : Nat) (hj : ¬ j < 0 ∧ j < z) (hi : j.toNatClampNeg = i) (hl : i < vs.length) (hn : nar .boolean x = x') (vs' : List Value) (hv : vs.set i (.int x') = vs') (N : Fr n0 locs) (ge : n0 ≤ a) {pc : Nat} {Ls : Array Slot} {rest : List Value} (hd : decode c.code pc = .ok (.bastore, 1))
    (kk : ∀ (T' : State) (h' : Heap) (L' : List Loc), Stand p l e R s m args below meth c T' L' cells slots → T'.heap = h' → Wr h h' a i (.int x') → Fr n0 L' → Arv Z h' a k .boolean z vs' dv → own_Go p e below K (T'.setTop (mkF m (pc + 1) Ls rest))) : own_Go p e below K (T.setTop (mkF m pc Ls (.int x :: .int j :: .ref a :: rest))) := by
  obtain ⟨cl, A, q, S, M, H, G⟩ := F
  subst hn; subst hi; subst hv
  obtain ⟨T', h', X', e', W, st⟩ := stZ X hx hZ eT A (j := j) (inb_of S hj) (g := mkF m pc Ls (.int x :: .int j :: .ref a :: rest)) rfl rfl hd
  exact own_go st (kk T' h' _ X' e' W (Fr.snoc X' N ge) (Arv.set A q S M H G (fits_nar_bool _) W _ rfl hl))
theorem own_stC {K : State → Outcome → Prop} {n0 : Nat} (X : Stand p l e R s m args below meth c T locs cells slots) (hx : p.tables.exec = Jvm.exec) (hZ : Z.Warmed39 s.vm) (eT : T.heap = h) (F : Arv Z h a k .char z vs dv) (j : Int32) (x x' : Int32) (i : Nat) (hj : ¬ j < 0 ∧ j < z) (hi : j.toNatClampNeg = i) (hl : i < vs.length) (hn : nar .char x = x') (vs' : List Value) (hv : vs.set i (.int x') = vs') (N : Fr n0 locs) (ge : n0 ≤ a) {pc : Nat} {Ls : Array Slot} {rest : List Value} (hd : decode c.code pc = .ok (.castore, 1))
    (kk : ∀ (T' : State) (h' : Heap) (L' : List Loc), Stand p l e R s m args below meth c T' L' cells slots → T'.heap = h' → Wr h h' a i (.int x') → Fr n0 L' → Arv Z h' a k .char z vs' dv → own_Go p e below K (T'.setTop (mkF m (pc + 1) Ls rest))) : own_Go p e below K (T.setTop (mkF m pc Ls (.int x :: .int j :: .ref a :: rest))) := by
  obtain ⟨cl, A, q, S, M, H, G⟩ := F
  subst hn; subst hi; subst hv
  obtain ⟨T', h', X', e', W, st⟩ := stC X hx hZ eT A (j := j) (inb_of S hj) (g := mkF m pc Ls (.int x :: .int j :: .ref a :: rest)) rfl rfl hd
  exact own_go st (kk T' h' _ X' e' W (Fr.snoc X' N ge) (Arv.set A q S M H G (fits_nar_char _) W _ rfl hl))
theorem own_stS {K : State → Outcome → Prop} {n0 : Nat} (X : Stand p l e R s m args below meth c T locs cells slots) (hx : p.tables.exec = Jvm.exec) (hZ : Z.Warmed39 s.vm) (eT : T.heap = h) (F : Arv Z h a k .short z vs dv) (j : Int32) (x x' : Int32) (i : Nat) (hj : ¬ j < 0 ∧ j < z) (hi : j.toNatClampNeg = i) (hl : i < vs.length) (hn : nar .short x = x') (vs' : List Value) (hv : vs.set i (.int x') = vs') (N : Fr n0 locs) (ge : n0 ≤ a) {pc : Nat} {Ls : Array Slot} {rest : List Value} (hd : decode c.code pc = .ok (.sastore, 1))
    (kk : ∀ (T' : State) (h' : Heap) (L' : List Loc), Stand p l e R s m args below meth c T' L' cells slots → T'.heap = h' → Wr h h' a i (.int x') → Fr n0 L' → Arv Z h' a k .short z vs' dv → own_Go p e below K (T'.setTop (mkF m (pc + 1) Ls rest))) : own_Go p e below K (T.setTop (mkF m pc Ls (.int x :: .int j :: .ref a :: rest))) := by
  obtain ⟨cl, A, q, S, M, H, G⟩ := F
  subst hn; subst hi; subst hv
  obtain ⟨T', h', X', e', W, st⟩ := stS X hx hZ eT A (j := j) (inb_of S hj) (g := mkF m pc Ls (.int x :: .int j :: .ref a :: rest)) rfl rfl hd
  exact own_go st (kk T' h' _ X' e' W (Fr.snoc X' N ge) (Arv.set A q S M H G (fits_nar_short _) W _ rfl hl))
theorem own_stR {K : State → Outcome → Prop} {n0 : Nat} (X : Stand p l e R s m args below meth c T locs cells slots) (hx : p.tables.exec = Jvm.exec) (hZ : Z.Warmed39 s.vm) (eT : T.heap = h) (F : Arv Z h a k ty z vs dv) (j : Int32) (v : Value) (i : Nat) (hj : ¬ j < 0 ∧ j < z) (hi : j.toNatClampNeg = i) (hl : i < vs.length) (sto : ∀ cl : Cell, Arr Z h a cl ty → cl.cls = k → Sto Z h a v) (hty : ty.isReference = true) (vs' : List Value) (hv : vs.set i v = vs') (N : Fr n0 locs) (ge : n0 ≤ a) {pc : Nat} {Ls : Array Slot} {rest : List Value} (hd : decode c.code pc = .ok (.aastore, 1))
    (kk : ∀ (T' : State) (h' : Heap) (L' : List Loc), Stand p l e R s m args below meth c T' L' cells slots → T'.heap = h' → Wr h h' a i v → Fr n0 L' → Arv Z h' a k ty z vs' dv → own_Go p e below K (T'.setTop (mkF m (pc + 1) Ls rest))) : own_Go p e below K (T.setTop (mkF m pc Ls (v :: .int j :: .ref a :: rest))) := by
  obtain ⟨cl, A, q, S, M, H, G⟩ := F
  subst hi; subst hv
  have so := sto cl A q
  obtain ⟨T', h', X', e', W, st⟩ := stR X hx hZ eT A (j := j) (inb_of S hj) hty so (g := mkF m pc Ls (v :: .int j :: .ref a :: rest)) rfl rfl hd
  have fv : fits ty v = true := by
    rcases so with rfl | ⟨_, _, _, _, _, _, _, y, _, _, _, _, rfl, _⟩ <;> cases ty <;> first | rfl | cases hty
  exact own_go st (kk T' h' _ X' e' W (Fr.snoc X' N ge) (Arv.set A q S M H G fv W _ rfl hl))
end Arrays
section Calls
variable {own : String} {index : Nat} {y z : MethodName} {bytes : ByteArray} {maxL : Nat} {ret : Option FieldType} {rm : Room} {W : Nat} {as' : Array Value} {Z : State} {a0 : Array Value} {h : Heap} {K : State → Outcome → Prop} {pc : Nat} {Ls : Array Slot} {argsL rest stk : List Value} {C : String} {b : Addr}
theorem own_cs (X : Stand p l e R s m args below meth c T locs cells slots) (hx : p.tables.exec = Jvm.exec) (hZ : Z.Warmed39 s.vm) (hown : s.vm.findClass own = some m.cls) (w1 : (Cond.methodLink own index y).before a0 Z = true) (w2 : (Cond.static y).before a0 Z = true) (w3 : (Cond.initialized y.cls).before a0 Z = true) (w4 : (Cond.code y bytes maxL ret).before a0 Z = true)
    (hy : y.cls ≠ "java/lang/invoke/MethodHandle" ∧ y.cls ≠ "java/lang/invoke/VarHandle")
    (hM : MetFree l y (head1 [Cond.code y bytes maxL ret] rm) (fun a U => a = as' ∧ Z.Warmed39 U.vm ∧ U.heap = h) (fun _ _ _ _ _ => True) (fun _ U o U' => ∃ v L, o = .returned v ∧ Q v U'.heap L ∧ FrameEnd U o U' L rm.cells rm.slots))
    (hf : rm.frames + 1 ≤ R.frames) (hl : W + (maxL + 11) + rm.locals ≤ R.locals) (hc : cells + rm.cells ≤ R.cells) (hs : slots + rm.slots ≤ R.slots) (eT : T.heap = h) (hsz : Ls.size = c.maxLocals) (hlen : ∀ sig, parseMethodDescriptor y.desc = some sig → argsL.length = sig.parameters.length)
    (hst : stk = argsL.reverse ++ rest) (has : argsL.toArray = as') (hW : (rest.map fun v => v.category).sum ≤ W) (hd : decode c.code pc = .ok (.invokestatic index, 3))
    (k : ∀ (v : Option Value) (T' : State) (L : List Loc), Stand p l e R s m args below meth c T' (locs ++ L) (cells + rm.cells) (slots + rm.slots) → Q v T'.heap L → own_Go p e below K (T'.setTop (mkF m (pc + 3) Ls (v.toList ++ rest)))) : own_Go p e below K (T.setTop (mkF m pc Ls stk)) := by
  obtain ⟨v, _, ⟨T', L', k', n'⟩, -, X', ⟨L, hQ, h1, h2, h3⟩, st⟩ := Jvm.LawKit.callS X hx (y := y) hown (mvT hZ w1) (mvT hZ w2) (mvT hZ w3) (mvT hZ w4) hy (backOf (W := W) hM hZ w4 w3 hf hl) (g := mkF m pc Ls stk) rfl hsz (argsL := argsL) (rest := rest) hlen hst (by show 2 * 0 + _ ≤ _; simpa using hW) hd (fun _ _ => ⟨has, eT, hc, hs⟩)
  dsimp only [Pt.U, Pt.locs, Pt.cells, Pt.slots] at X' h1 h2 h3 st hQ
  subst h1 h2 h3
  exact own_go st (k v T' L X' hQ)
theorem own_cp (X : Stand p l e R s m args below meth c T locs cells slots) (hx : p.tables.exec = Jvm.exec) (hZ : Z.Warmed39 s.vm) (hown : s.vm.findClass own = some m.cls) (hy1 : y.name = "<init>") (w1 : (Cond.methodLink own index y).before a0 Z = true) (w2 : (Cond.instanceMethod y).before a0 Z = true) (w3 : (Cond.initialized y.cls).before a0 Z = true) (w4 : (Cond.code y bytes maxL none).before a0 Z = true)
    (hy : y.cls ≠ "java/lang/invoke/MethodHandle" ∧ y.cls ≠ "java/lang/invoke/VarHandle")
    (hM : MetFree l y (head1 [Cond.code y bytes maxL none] rm) (fun a U => a = as' ∧ Z.Warmed39 U.vm ∧ U.heap = h) (fun _ _ _ _ _ => True) (fun _ U o U' => ∃ v L, o = .returned v ∧ Q v U'.heap L ∧ FrameEnd U o U' L rm.cells rm.slots))
    (hf : rm.frames + 1 ≤ R.frames) (hl : W + (maxL + 11) + rm.locals ≤ R.locals) (hc : cells + rm.cells ≤ R.cells) (hs : slots + rm.slots ≤ R.slots) (eT : T.heap = h) (hsz : Ls.size = c.maxLocals) (hlen : ∀ sig, parseMethodDescriptor y.desc = some sig → argsL.length = sig.parameters.length)
    (hst : stk = argsL.reverse ++ .ref b :: rest) (has : (.ref b :: argsL).toArray = as') (hW : (rest.map fun v => v.category).sum ≤ W) (hd : decode c.code pc = .ok (.invokespecial index, 3))
    (k : ∀ (v : Option Value) (T' : State) (L : List Loc), Stand p l e R s m args below meth c T' (locs ++ L) (cells + rm.cells) (slots + rm.slots) → Q v T'.heap L → own_Go p e below K (T'.setTop (mkF m (pc + 3) Ls (v.toList ++ rest)))) : own_Go p e below K (T.setTop (mkF m pc Ls stk)) := by
  obtain ⟨v, _, ⟨T', L', k', n'⟩, -, X', ⟨L, hQ, h1, h2, h3⟩, st⟩ := X.specialBack hx (y := y) hy1 hown (mvT hZ w1) (mvT hZ w2) (mvT hZ w4) hy (backOf (W := W) hM hZ w4 w3 hf hl) (g := mkF m pc Ls stk) rfl hsz (Steps.refl _) (a := b) (argsL := argsL) (rest := rest) hlen hst (by show 2 * 0 + _ ≤ _; simpa using hW) hd (fun _ _ => ⟨has, eT, hc, hs⟩)
  dsimp only [Pt.U, Pt.locs, Pt.cells, Pt.slots] at X' h1 h2 h3 st hQ
  subst h1 h2 h3
  exact own_via st (k v T' L X' hQ)
theorem own_cv (X : Stand p l e R s m args below meth c T locs cells slots) (hx : p.tables.exec = Jvm.exec) (hZ : Z.Warmed39 s.vm) (hown : s.vm.findClass own = some m.cls) (nf : NotFace s y) (w1 : (Cond.methodLink own index y).before a0 Z = true) (w2 : (Cond.declares y).before a0 Z = true) (w5 : (Cond.selects C y z).before a0 Z = true) (w6 : (Cond.instanceMethod z).before a0 Z = true) (w3 : (Cond.initialized z.cls).before a0 Z = true) (w4 : (Cond.code z bytes maxL ret).before a0 Z = true)
    (hy : y.cls ≠ "java/lang/invoke/MethodHandle" ∧ y.cls ≠ "java/lang/invoke/VarHandle") (E : Exa Z h b C)
    (hM : MetFree l z (head1 [Cond.code z bytes maxL ret] rm) (fun a U => a = as' ∧ Z.Warmed39 U.vm ∧ U.heap = h) (fun _ _ _ _ _ => True) (fun _ U o U' => ∃ v L, o = .returned v ∧ Q v U'.heap L ∧ FrameEnd U o U' L rm.cells rm.slots))
    (hf : rm.frames + 1 ≤ R.frames) (hl : W + (maxL + 11) + rm.locals ≤ R.locals) (hc : cells + rm.cells ≤ R.cells) (hs : slots + rm.slots ≤ R.slots) (eT : T.heap = h) (hsz : Ls.size = c.maxLocals) (hlen : ∀ sig, parseMethodDescriptor y.desc = some sig → argsL.length = sig.parameters.length)
    (hst : stk = argsL.reverse ++ .ref b :: rest) (has : (.ref b :: argsL).toArray = as') (hW : (rest.map fun v => v.category).sum ≤ W) (hd : decode c.code pc = .ok (.invokevirtual index, 3))
    (k : ∀ (v : Option Value) (T' : State) (L : List Loc), Stand p l e R s m args below meth c T' (locs ++ L) (cells + rm.cells) (slots + rm.slots) → Q v T'.heap L → own_Go p e below K (T'.setTop (mkF m (pc + 3) Ls (v.toList ++ rest)))) : own_Go p e below K (T.setTop (mkF m pc Ls stk)) := by
  obtain ⟨cq, kq, qa, qb, qc⟩ := isOf hZ eT E
  obtain ⟨v, _, ⟨T', L', k', n'⟩, -, X', ⟨L, hQ, h1, h2, h3⟩, st⟩ := X.virtualBack hx (y := y) (z := z) hown (mvT hZ w1) (mvT hZ w2) nf (mvT hZ w5) (mvT hZ w6) hy (backOf (W := W) hM hZ w4 w3 hf hl) qa qc (g := mkF m pc Ls stk) rfl hsz (Steps.refl _) (argsL := argsL) (rest := rest) hlen hst (by show 2 * 0 + _ ≤ _; simpa using hW) hd (fun _ _ => ⟨has, eT, hc, hs⟩)
  dsimp only [Pt.U, Pt.locs, Pt.cells, Pt.slots] at X' h1 h2 h3 st hQ
  subst h1 h2 h3
  exact own_via st (k v T' L X' hQ)
theorem own_cq (X : Stand p l e R s m args below meth c T locs cells slots) (hx : p.tables.exec = Jvm.exec) (hZ : Z.Warmed39 s.vm) (hown : s.vm.findClass own = some m.cls) (w1 : (Cond.methodLink own index y).before a0 Z = true) (w6 : (Cond.instanceMethod y).before a0 Z = true) (w5 : (Cond.selects y.cls y y).before a0 Z = true) (w7 : (Cond.privateMethod y).before a0 Z = true) (w3 : (Cond.initialized y.cls).before a0 Z = true) (w4 : (Cond.code y bytes maxL ret).before a0 Z = true)
    (hy : y.cls ≠ "java/lang/invoke/MethodHandle" ∧ y.cls ≠ "java/lang/invoke/VarHandle") (E : Exa Z h b C)
    (hM : MetFree l y (head1 [Cond.code y bytes maxL ret] rm) (fun a U => a = as' ∧ Z.Warmed39 U.vm ∧ U.heap = h) (fun _ _ _ _ _ => True) (fun _ U o U' => ∃ v L, o = .returned v ∧ Q v U'.heap L ∧ FrameEnd U o U' L rm.cells rm.slots))
    (hf : rm.frames + 1 ≤ R.frames) (hl : W + (maxL + 11) + rm.locals ≤ R.locals) (hc : cells + rm.cells ≤ R.cells) (hs : slots + rm.slots ≤ R.slots) (eT : T.heap = h) (hsz : Ls.size = c.maxLocals) (hlen : ∀ sig, parseMethodDescriptor y.desc = some sig → argsL.length = sig.parameters.length)
    (hst : stk = argsL.reverse ++ .ref b :: rest) (has : (.ref b :: argsL).toArray = as') (hW : (rest.map fun v => v.category).sum ≤ W) (hd : decode c.code pc = .ok (.invokevirtual index, 3))
    (k : ∀ (v : Option Value) (T' : State) (L : List Loc), Stand p l e R s m args below meth c T' (locs ++ L) (cells + rm.cells) (slots + rm.slots) → Q v T'.heap L → own_Go p e below K (T'.setTop (mkF m (pc + 3) Ls (v.toList ++ rest)))) : own_Go p e below K (T.setTop (mkF m pc Ls stk)) := by
  obtain ⟨cq, q1, q2⟩ := E.cell
  obtain ⟨v, _, ⟨T', L', k', n'⟩, -, X', ⟨L, hQ, h1, h2, h3⟩, st⟩ := X.privateBack hx (y := y) hown (mvT hZ w1) (mvT hZ w6) (mvT hZ w5) (Cond.privateMethod_at (mvP hZ w7 (args := #[]))) (mvT hZ w4) hy (backOf (W := W) hM hZ w4 w3 hf hl) (g := mkF m pc Ls stk) rfl hsz (Steps.refl _) (a := b) (by rw [eT]; exact q1) q2 (argsL := argsL) (rest := rest) hlen hst (by show 2 * 0 + _ ≤ _; simpa using hW) hd (fun _ _ => ⟨has, eT, hc, hs⟩)
  dsimp only [Pt.U, Pt.locs, Pt.cells, Pt.slots] at X' h1 h2 h3 st hQ
  subst h1 h2 h3
  exact own_via st (k v T' L X' hQ)
theorem own_cu {owner : String} (X : Stand p l e R s m args below meth c T locs cells slots) (hx : p.tables.exec = Jvm.exec) (hZ : Z.Warmed39 s.vm) (hown : s.vm.findClass own = some m.cls) (w1 : (Cond.methodLink own index y).before a0 Z = true) (w8 : (Cond.sameMethod y.cls owner y.name y.desc).before a0 Z = true) (w2 : (Cond.declares ⟨owner, y.name, y.desc⟩).before a0 Z = true) (w5 : (Cond.selects C y z).before a0 Z = true) (w6 : (Cond.instanceMethod z).before a0 Z = true) (w3 : (Cond.initialized z.cls).before a0 Z = true) (w4 : (Cond.code z bytes maxL ret).before a0 Z = true)
    (hy : owner ≠ "java/lang/invoke/MethodHandle" ∧ owner ≠ "java/lang/invoke/VarHandle") (E : Exa Z h b C)
    (hM : MetFree l z (head1 [Cond.code z bytes maxL ret] rm) (fun a U => a = as' ∧ Z.Warmed39 U.vm ∧ U.heap = h) (fun _ _ _ _ _ => True) (fun _ U o U' => ∃ v L, o = .returned v ∧ Q v U'.heap L ∧ FrameEnd U o U' L rm.cells rm.slots))
    (hf : rm.frames + 1 ≤ R.frames) (hl : W + (maxL + 11) + rm.locals ≤ R.locals) (hc : cells + rm.cells ≤ R.cells) (hs : slots + rm.slots ≤ R.slots) (eT : T.heap = h) (hsz : Ls.size = c.maxLocals) (hlen : ∀ sig, parseMethodDescriptor y.desc = some sig → argsL.length = sig.parameters.length)
    (hst : stk = argsL.reverse ++ .ref b :: rest) (has : (.ref b :: argsL).toArray = as') (hW : (rest.map fun v => v.category).sum ≤ W) (hd : decode c.code pc = .ok (.invokevirtual index, 3))
    (k : ∀ (v : Option Value) (T' : State) (L : List Loc), Stand p l e R s m args below meth c T' (locs ++ L) (cells + rm.cells) (slots + rm.slots) → Q v T'.heap L → own_Go p e below K (T'.setTop (mkF m (pc + 3) Ls (v.toList ++ rest)))) : own_Go p e below K (T.setTop (mkF m pc Ls stk)) := by
  obtain ⟨cq, kq, qa, qb, qc⟩ := isOf hZ eT E
  obtain ⟨v, _, ⟨T', L', k', n'⟩, -, X', ⟨L, hQ, h1, h2, h3⟩, st⟩ := X.virtualBackUp hx (x := y) (y := z) (owner := owner) hown (mvT hZ w1) (mvT hZ w8) (mvT hZ w2) hy (mvT hZ w5) (mvT hZ w6) (backOf (W := W) hM hZ w4 w3 hf hl) qa qc (g := mkF m pc Ls stk) rfl hsz (Steps.refl _) (argsL := argsL) (rest := rest) hlen hst (by show 2 * 0 + _ ≤ _; simpa using hW) hd (fun _ _ => ⟨has, eT, hc, hs⟩)
  dsimp only [Pt.U, Pt.locs, Pt.cells, Pt.slots] at X' h1 h2 h3 st hQ
  subst h1 h2 h3
  exact own_via st (k v T' L X' hQ)
end Calls
theorem own_fld_eq {Z : State} {h : Heap} {a : Addr} {C n d : String} {v w : Value} (F : Fld Z h a C n d v) (G : Fld Z h a C n d w) : v = w := Classical.byContradiction fun q => Fld.ne F G q rfl
theorem own_nsroot {Z : State} {a0 : Array Value} {O K : String} {n : Nat} (w : (Cond.noSuperclass O).before a0 Z = true) (wk : (Cond.instantiable K n).before a0 Z = true) (hn : O ≠ K) : NS Z O K := by
  obtain ⟨c, k, h1, h2, h3, -, -⟩ := Cond.noSuperclass_spec w
  obtain ⟨t, kt, g1, -⟩ := Cond.instantiable_spec wk
  have ne := ids_ne h1 g1 hn
  refine ⟨c, t, h1, g1, fun fuel => ?_⟩
  cases fuel with
  | zero => rfl
  | succ f => simp [Vm.isSubclassAux, ne, h2, h3]
theorem own_nsno {Z : State} {a0 : Array Value} {C S K : String} {n : Nat} (w : (Cond.superclass C S).before a0 Z = true) (wk : (Cond.instantiable K n).before a0 Z = true) (nn : NS Z C K) (hn : C ≠ K) : ∃ c t, Z.vm.findClass C = some c ∧ Z.vm.findClass K = some t ∧ Z.vm.assignable c t = false := by
  obtain ⟨c, t, h0, g0, n3⟩ := nn
  obtain ⟨p, k, kp, h1, h2, h3, h4, h5, -, h7⟩ := Cond.superclass_spec h0 w
  obtain ⟨t', kt, g1, g2, g5, g6, -⟩ := Cond.instantiable_spec wk
  cases g0.symm.trans g1
  have g7 : kt.isInterface = false := by simp only [Bool.or_eq_false_iff] at g6; exact g6.1
  have ne := ids_ne h0 g0 hn
  refine ⟨c, t, h0, g0, ?_⟩
  show Z.vm.assignableAux (255 + 1) c t = false
  simp [Vm.assignableAux, ne, h2, g2, h5, g5, g7, Vm.isSubclass, n3]
theorem own_ns_exa {Z : State} {h : Heap} {a : Addr} {C : String} (F : Exa Z h a C) : ∀ cell : Cell, h[a]? = some cell → cell.vm.isStatics = false := fun cell hc => by
  obtain ⟨c, _, h1, -, -, h4, -⟩ := F; cases h1.symm.trans hc; exact h4
theorem own_ns_arv {Z : State} {h : Heap} {a : Addr} {k : ClassId} {ty : FieldType} {z : Int32} {vs : List Value} {dv : Value} (F : Arv Z h a k ty z vs dv) : ∀ cell : Cell, h[a]? = some cell → cell.vm.isStatics = false := fun cell hc => by
  obtain ⟨c, A, -⟩ := F; cases A.1.symm.trans hc; exact A.plain
theorem own_sta_keep {Z : State} {h h' : Heap} {C f d : String} {v : Value} {ws : List Addr} (F : Sta Z h C f d v) (K : Keep h h' ws) (q : ∀ x ∈ ws, ∀ cell : Cell, h[x]? = some cell → cell.vm.isStatics = false) : Sta Z h' C f d v := by
  obtain ⟨cf, i, k, fl, st, cell, h1, h2, h3, h4, h5, h6, h7⟩ := F
  exact ⟨cf, i, k, fl, st, cell, h1, h2, h3, h4, K.2.1 _ _ h5 (fun hm => by rw [q _ hm _ h5] at h6; cases h6), h6, h7⟩
end Own
end Jvm.RoadKit
namespace Jvm.Pilot.@@N@@
open Jvm Jvm.ClassFile Sem Op Lib Jvm.Free Jvm.Stand Jvm.LawKit Jvm.RoadKit Bundle Jvm.Pilot.@@N@@.Jvm.D
theorem own_m (i : Nat) {d : Jvm.Cond} (h : tables_1[i]? = some d) : d ∈ tables_1 := List.mem_of_getElem? h
theorem own_eq_int {args : Array Value} {s first : State} {o : Option Outcome} {idx : List Nat} {t : Term} {k : Int32} (h : (Cond.eq t (.int k)).value args first o s idx = some true) : t.eval args first o idx s = some (.int k) := by
  obtain ⟨x, y, h1, h2, h3, h4⟩ := cmp_v (r := true) (Or.inl h)
  have e2 : y = .int k := (Option.some.inj h2).symm
  subst e2
  obtain ⟨z, rfl⟩ := h4
  have q := h
  simp only [Cond.value, h1, h2] at q
  have : z = k := by simpa using q
  rw [h1, this]
theorem own_eq_ref {args : Array Value} {s first : State} {o : Option Outcome} {idx : List Nat} {t u : Term} {a : Addr} (hu : u.eval args first o idx s = some (.ref a)) (h : (Cond.eq t u).value args first o s idx = some true) : t.eval args first o idx s = some (.ref a) := by
  obtain ⟨x, y, h1, h2, h3, h4⟩ := cmp_v (r := true) (Or.inl h)
  cases hu.symm.trans h2
  have q := h
  simp only [Cond.value, h1, h2] at q
  cases x <;> simp [Kin, Value.isRef] at h3 h4 q ⊢
  rw [h1, q]
theorem own_mod3 (x : Int32) : (x &&& 2147483647) % 3 = 0 ∨ (x &&& 2147483647) % 3 = 1 ∨ (x &&& 2147483647) % 3 = 2 := by
  have e : (x &&& 2147483647).toInt = x.toInt % (2 ^ 31 : Nat) := c_mask x 2147483647 31 (by decide) (by decide)
  have r := (c_irem (x &&& 2147483647) 3 3 (by decide)).1 (by omega)
  simp only [← Int32.toInt_inj, Int32.reduceToInt] at r ⊢; omega
def own_in0 (cp : Int32) : Int32 := 0
def own_in2 (a b cp : Int32) : Int32 := if ¬ cp < a ∧ ¬ b < cp then 1 else 0
def own_in4 (a b c d cp : Int32) : Int32 := if (¬ cp < a ∧ ¬ b < cp) ∨ (¬ cp < c ∧ ¬ d < cp) then 1 else 0

theorem own_d_prog_20_method_9_code_0 : decode prog_20_method_9_code 0 = .ok (.iconst 0, 1) := by decide +kernel
theorem own_d_prog_20_method_9_code_1 : decode prog_20_method_9_code 1 = .ok (.istore_n 2, 1) := by decide +kernel
theorem own_d_prog_20_method_9_code_2 : decode prog_20_method_9_code 2 = .ok (.iload_n 2, 1) := by decide +kernel
theorem own_d_prog_20_method_9_code_3 : decode prog_20_method_9_code 3 = .ok (.aload_n 0, 1) := by decide +kernel
theorem own_d_prog_20_method_9_code_4 : decode prog_20_method_9_code 4 = .ok (.arraylength, 1) := by decide +kernel
theorem own_d_prog_20_method_9_code_5 : decode prog_20_method_9_code 5 = .ok (.if_icmp .ge 27, 3) := by decide +kernel
theorem own_d_prog_20_method_9_code_32 : decode prog_20_method_9_code 32 = .ok (.iconst 0, 1) := by decide +kernel
theorem own_d_prog_20_method_9_code_33 : decode prog_20_method_9_code 33 = .ok (.ireturn, 1) := by decide +kernel
theorem own_pn_com_example_fitzroy_fitzroy_XmlVersion : plainName "com/example/fitzroy/fitzroy/XmlVersion" = true := by first | (simp [plainName, overriddenIn]; done) | decide +kernel
def Q_in0 (Z : State) (cp : Int32) (h0 : Heap) (n0 : Nat) (v : Option Value) (h : Heap) (L : List Loc) : Prop := v = some (.int (own_in0 cp)) ∧ Fr n0 L ∧ h = h0
set_option maxRecDepth 65536 in
set_option maxHeartbeats 40000000 in
theorem rm_in0 (l : Launch) (Z : State) (a0 : Array Value) (hw : ∀ d ∈ tables_1, d.before a0 Z = true) (ws : List Jvm.Cond) (a : Addr) (k : ClassId) (cp : Int32) (h0 : Heap) (n0 : Nat) (Z0 : n0 ≤ h0.size) (V : Arv Z h0 a k .int (0 : Int32) [] (.int (0 : Int32))) :
    MetFree l (⟨"com/example/fitzroy/fitzroy/XmlVersion", "inRanges", "([II)Z"⟩ : MethodName) (head1 (Jvm.Cond.code (⟨"com/example/fitzroy/fitzroy/XmlVersion", "inRanges", "([II)Z"⟩ : MethodName) prog_20_method_9_code 3 (some .boolean) :: ws) ({ frames := 0, cells := 0, slots := 0, locals := 0 } : Room)) (fun aA U => aA = #[(.ref a), (.int cp)] ∧ Z.Warmed39 U.vm ∧ U.heap = h0) (fun _ _ _ _ _ => True) (fun _ U o U' => ∃ v L, o = .returned v ∧ Q_in0 Z cp h0 n0 v U'.heap L ∧ FrameEnd U o U' L ({ frames := 0, cells := 0, slots := 0, locals := 0 } : Room).cells ({ frames := 0, cells := 0, slots := 0, locals := 0 } : Room).slots) := by
  refine MetFree.of_bodySF (plainFor_of_name own_pn_com_example_fitzroy_fitzroy_XmlVersion) hisR ?_
  intro p e s m args below meth c s₁ Bd hml0 hP hK
  obtain ⟨rfl, hZ, hh⟩ := hP
  have hx := Bd.exec
  have hby := Bd.bytes
  have hlk : meth.locks = false := BodyLoose.notSynchronized Bd
  have hml : c.maxLocals = 3 := hml0
  have hown : s.vm.findClass "com/example/fitzroy/fitzroy/XmlVersion" = some m.cls := findClass_of_methodNamed Bd.named
  have hnm := (name_of_methodNamed Bd.named Bd.method).1
  have X0 : Stand p l e ({ frames := 0, cells := 0, slots := 0, locals := 0 } : Room) s m #[(.ref a), (.int cp)] below meth c s₁ [] 0 0 := Stand.of_body Bd
  have e0 : s₁.heap = h0 := by rw [← hh, Bd.state]; rfl
  have N0 := Fr.nil n0
  show own_Go p e below (own_K s (Q_in0 Z cp h0 n0) ({ frames := 0, cells := 0, slots := 0, locals := 0 } : Room).cells ({ frames := 0, cells := 0, slots := 0, locals := 0 } : Room).slots) (s₁.setTop (entryFrame m #[(.ref a), (.int cp)] 3))
  rw [(by first | (simp [entryFrame, mkF, argsToLocals, Value.category]; done) | rfl : entryFrame m #[(.ref a), (.int cp)] 3 = mkF m 0 #[.val (.ref a), .val (.int cp), .unset] [])]
  show own_Go p e below _ (s₁.setTop (mkF m 0 #[.val (.ref a), .val (.int cp), .unset] []))
  refine own_go (fun _ hr => XS.iconst X0.here hx rfl (hb hby own_d_prog_20_method_9_code_0) (XS.istoreN X0.here hx rfl (hb hby own_d_prog_20_method_9_code_1) rfl (l' := #[.val (.ref a), .val (.int cp), .val (.int (0 : Int32))]) rfl (XS.iloadN X0.here hx rfl (hb hby own_d_prog_20_method_9_code_2) rfl (XS.aloadN X0.here hx rfl (hb hby own_d_prog_20_method_9_code_3) rfl rfl (own_alen X0 hx hZ e0 V rfl rfl (hb hby own_d_prog_20_method_9_code_4) (XS.icmpYes X0.here hx rfl (pc0 := 5) (pc' := 32) rfl (hb hby own_d_prog_20_method_9_code_5) rfl (flt (by decide)).2.1 (by decide) (by decide) (XS.iconst X0.here hx rfl (hb hby own_d_prog_20_method_9_code_32) hr))))))) ?_
  show own_Go p e below _ (s₁.setTop (mkF m 33 #[.val (.ref a), .val (.int cp), .val (.int (0 : Int32))] [(.int (0 : Int32))]))
  exact own_retN X0 hx hlk Bd.returns (t := .boolean) (by simp) (hb hby own_d_prog_20_method_9_code_33) (by decide) (by decide) ⟨(show some (Value.int (0 : Int32)) = some (Value.int (own_in0 cp)) by simp [own_in0, ]), N0, e0⟩
theorem own_d_prog_20_method_9_code_8 : decode prog_20_method_9_code 8 = .ok (.iload_n 1, 1) := by decide +kernel
theorem own_d_prog_20_method_9_code_9 : decode prog_20_method_9_code 9 = .ok (.aload_n 0, 1) := by decide +kernel
theorem own_d_prog_20_method_9_code_10 : decode prog_20_method_9_code 10 = .ok (.iload_n 2, 1) := by decide +kernel
theorem own_d_prog_20_method_9_code_11 : decode prog_20_method_9_code 11 = .ok (.iaload, 1) := by decide +kernel
theorem own_d_prog_20_method_9_code_12 : decode prog_20_method_9_code 12 = .ok (.if_icmp .lt 14, 3) := by decide +kernel
theorem own_d_prog_20_method_9_code_26 : decode prog_20_method_9_code 26 = .ok (.iinc 2 2, 3) := by decide +kernel
theorem own_d_prog_20_method_9_code_29 : decode prog_20_method_9_code 29 = .ok (.goto (-27), 3) := by decide +kernel
theorem own_d_prog_20_method_9_code_15 : decode prog_20_method_9_code 15 = .ok (.iload_n 1, 1) := by decide +kernel
theorem own_d_prog_20_method_9_code_16 : decode prog_20_method_9_code 16 = .ok (.aload_n 0, 1) := by decide +kernel
theorem own_d_prog_20_method_9_code_17 : decode prog_20_method_9_code 17 = .ok (.iload_n 2, 1) := by decide +kernel
theorem own_d_prog_20_method_9_code_18 : decode prog_20_method_9_code 18 = .ok (.iconst 1, 1) := by decide +kernel
theorem own_d_prog_20_method_9_code_19 : decode prog_20_method_9_code 19 = .ok (.iadd, 1) := by decide +kernel
theorem own_d_prog_20_method_9_code_20 : decode prog_20_method_9_code 20 = .ok (.iaload, 1) := by decide +kernel
theorem own_d_prog_20_method_9_code_21 : decode prog_20_method_9_code 21 = .ok (.if_icmp .gt 5, 3) := by decide +kernel
theorem own_d_prog_20_method_9_code_24 : decode prog_20_method_9_code 24 = .ok (.iconst 1, 1) := by decide +kernel
theorem own_d_prog_20_method_9_code_25 : decode prog_20_method_9_code 25 = .ok (.ireturn, 1) := by decide +kernel
def Q_in2 (Z : State) (va : Int32) (vb : Int32) (cp : Int32) (h0 : Heap) (n0 : Nat) (v : Option Value) (h : Heap) (L : List Loc) : Prop := v = some (.int (own_in2 va vb cp)) ∧ Fr n0 L ∧ h = h0
set_option maxRecDepth 65536 in
set_option maxHeartbeats 40000000 in
theorem rm_in2 (l : Launch) (Z : State) (a0 : Array Value) (hw : ∀ d ∈ tables_1, d.before a0 Z = true) (ws : List Jvm.Cond) (a : Addr) (k : ClassId) (va : Int32) (vb : Int32) (cp : Int32) (h0 : Heap) (n0 : Nat) (Z0 : n0 ≤ h0.size) (V : Arv Z h0 a k .int (2 : Int32) [(.int va), (.int vb)] (.int (0 : Int32))) :
    MetFree l (⟨"com/example/fitzroy/fitzroy/XmlVersion", "inRanges", "([II)Z"⟩ : MethodName) (head1 (Jvm.Cond.code (⟨"com/example/fitzroy/fitzroy/XmlVersion", "inRanges", "([II)Z"⟩ : MethodName) prog_20_method_9_code 3 (some .boolean) :: ws) ({ frames := 0, cells := 0, slots := 0, locals := 0 } : Room)) (fun aA U => aA = #[(.ref a), (.int cp)] ∧ Z.Warmed39 U.vm ∧ U.heap = h0) (fun _ _ _ _ _ => True) (fun _ U o U' => ∃ v L, o = .returned v ∧ Q_in2 Z va vb cp h0 n0 v U'.heap L ∧ FrameEnd U o U' L ({ frames := 0, cells := 0, slots := 0, locals := 0 } : Room).cells ({ frames := 0, cells := 0, slots := 0, locals := 0 } : Room).slots) := by
  refine MetFree.of_bodySF (plainFor_of_name own_pn_com_example_fitzroy_fitzroy_XmlVersion) hisR ?_
  intro p e s m args below meth c s₁ Bd hml0 hP hK
  obtain ⟨rfl, hZ, hh⟩ := hP
  have hx := Bd.exec
  have hby := Bd.bytes
  have hlk : meth.locks = false := BodyLoose.notSynchronized Bd
  have hml : c.maxLocals = 3 := hml0
  have hown : s.vm.findClass "com/example/fitzroy/fitzroy/XmlVersion" = some m.cls := findClass_of_methodNamed Bd.named
  have hnm := (name_of_methodNamed Bd.named Bd.method).1
  have X0 : Stand p l e ({ frames := 0, cells := 0, slots := 0, locals := 0 } : Room) s m #[(.ref a), (.int cp)] below meth c s₁ [] 0 0 := Stand.of_body Bd
  have e0 : s₁.heap = h0 := by rw [← hh, Bd.state]; rfl
  have N0 := Fr.nil n0
  show own_Go p e below (own_K s (Q_in2 Z va vb cp h0 n0) ({ frames := 0, cells := 0, slots := 0, locals := 0 } : Room).cells ({ frames := 0, cells := 0, slots := 0, locals := 0 } : Room).slots) (s₁.setTop (entryFrame m #[(.ref a), (.int cp)] 3))
  rw [(by first | (simp [entryFrame, mkF, argsToLocals, Value.category]; done) | rfl : entryFrame m #[(.ref a), (.int cp)] 3 = mkF m 0 #[.val (.ref a), .val (.int cp), .unset] [])]
  show own_Go p e below _ (s₁.setTop (mkF m 0 #[.val (.ref a), .val (.int cp), .unset] []))
  refine own_go (fun _ hr => XS.iconst X0.here hx rfl (hb hby own_d_prog_20_method_9_code_0) (XS.istoreN X0.here hx rfl (hb hby own_d_prog_20_method_9_code_1) rfl (l' := #[.val (.ref a), .val (.int cp), .val (.int (0 : Int32))]) rfl (XS.iloadN X0.here hx rfl (hb hby own_d_prog_20_method_9_code_2) rfl (XS.aloadN X0.here hx rfl (hb hby own_d_prog_20_method_9_code_3) rfl rfl (own_alen X0 hx hZ e0 V rfl rfl (hb hby own_d_prog_20_method_9_code_4) (XS.icmpNo X0.here hx rfl (hb hby own_d_prog_20_method_9_code_5) rfl (tlt (by decide)).2.1 (XS.iloadN X0.here hx rfl (hb hby own_d_prog_20_method_9_code_8) rfl (XS.aloadN X0.here hx rfl (hb hby own_d_prog_20_method_9_code_9) rfl rfl (XS.iloadN X0.here hx rfl (hb hby own_d_prog_20_method_9_code_10) rfl (own_iaload X0 hx hZ e0 V (0 : Int32) (.int va) ⟨by decide, by decide⟩ rfl rfl rfl (hb hby own_d_prog_20_method_9_code_11) hr)))))))))) ?_
  show own_Go p e below _ (s₁.setTop (mkF m 12 #[.val (.ref a), .val (.int cp), .val (.int (0 : Int32))] [(.int va), (.int cp)]))
  by_cases c1 : cp < va
  · refine own_go (fun _ hr => XS.icmpYes X0.here hx rfl (pc0 := 12) (pc' := 26) rfl (hb hby own_d_prog_20_method_9_code_12) rfl (tlt c1).1 (by decide) (by decide) hr) ?_
    show own_Go p e below _ (s₁.setTop (mkF m 26 #[.val (.ref a), .val (.int cp), .val (.int (0 : Int32))] []))
    refine own_go (fun _ hr => XS.iinc X0.here hx rfl (hb hby own_d_prog_20_method_9_code_26) rfl (l' := #[.val (.ref a), .val (.int cp), .val (.int (2 : Int32))]) rfl (XS.goto X0.here hx rfl (pc0 := 29) (pc' := 2) rfl (hb hby own_d_prog_20_method_9_code_29) (by decide) (by decide) (XS.iloadN X0.here hx rfl (hb hby own_d_prog_20_method_9_code_2) rfl (XS.aloadN X0.here hx rfl (hb hby own_d_prog_20_method_9_code_3) rfl rfl (own_alen X0 hx hZ e0 V rfl rfl (hb hby own_d_prog_20_method_9_code_4) (XS.icmpYes X0.here hx rfl (pc0 := 5) (pc' := 32) rfl (hb hby own_d_prog_20_method_9_code_5) rfl (flt (by decide)).2.1 (by decide) (by decide) (XS.iconst X0.here hx rfl (hb hby own_d_prog_20_method_9_code_32) hr))))))) ?_
    show own_Go p e below _ (s₁.setTop (mkF m 33 #[.val (.ref a), .val (.int cp), .val (.int (2 : Int32))] [(.int (0 : Int32))]))
    exact own_retN X0 hx hlk Bd.returns (t := .boolean) (by simp) (hb hby own_d_prog_20_method_9_code_33) (by decide) (by decide) ⟨(show some (Value.int (0 : Int32)) = some (Value.int (own_in2 va vb cp)) by simp [own_in2, c1]), N0, e0⟩
  refine own_go (fun _ hr => XS.icmpNo X0.here hx rfl (hb hby own_d_prog_20_method_9_code_12) rfl (flt c1).1 hr) ?_
  show own_Go p e below _ (s₁.setTop (mkF m 15 #[.val (.ref a), .val (.int cp), .val (.int (0 : Int32))] []))
  refine own_go (fun _ hr => XS.iloadN X0.here hx rfl (hb hby own_d_prog_20_method_9_code_15) rfl (XS.aloadN X0.here hx rfl (hb hby own_d_prog_20_method_9_code_16) rfl rfl (XS.iloadN X0.here hx rfl (hb hby own_d_prog_20_method_9_code_17) rfl (XS.iconst X0.here hx rfl (hb hby own_d_prog_20_method_9_code_18) (XS.iadd X0.here hx rfl (hb hby own_d_prog_20_method_9_code_19) rfl (own_iaload X0 hx hZ e0 V (1 : Int32) (.int vb) ⟨by decide, by decide⟩ rfl rfl rfl (hb hby own_d_prog_20_method_9_code_20) hr)))))) ?_
  show own_Go p e below _ (s₁.setTop (mkF m 21 #[.val (.ref a), .val (.int cp), .val (.int (0 : Int32))] [(.int vb), (.int cp)]))
  by_cases c2 : vb < cp
  · refine own_go (fun _ hr => XS.icmpYes X0.here hx rfl (pc0 := 21) (pc' := 26) rfl (hb hby own_d_prog_20_method_9_code_21) rfl (tlt c2).2.2.1 (by decide) (by decide) hr) ?_
    show own_Go p e below _ (s₁.setTop (mkF m 26 #[.val (.ref a), .val (.int cp), .val (.int (0 : Int32))] []))
    refine own_go (fun _ hr => XS.iinc X0.here hx rfl (hb hby own_d_prog_20_method_9_code_26) rfl (l' := #[.val (.ref a), .val (.int cp), .val (.int (2 : Int32))]) rfl (XS.goto X0.here hx rfl (pc0 := 29) (pc' := 2) rfl (hb hby own_d_prog_20_method_9_code_29) (by decide) (by decide) (XS.iloadN X0.here hx rfl (hb hby own_d_prog_20_method_9_code_2) rfl (XS.aloadN X0.here hx rfl (hb hby own_d_prog_20_method_9_code_3) rfl rfl (own_alen X0 hx hZ e0 V rfl rfl (hb hby own_d_prog_20_method_9_code_4) (XS.icmpYes X0.here hx rfl (pc0 := 5) (pc' := 32) rfl (hb hby own_d_prog_20_method_9_code_5) rfl (flt (by decide)).2.1 (by decide) (by decide) (XS.iconst X0.here hx rfl (hb hby own_d_prog_20_method_9_code_32) hr))))))) ?_
    show own_Go p e below _ (s₁.setTop (mkF m 33 #[.val (.ref a), .val (.int cp), .val (.int (2 : Int32))] [(.int (0 : Int32))]))
    exact own_retN X0 hx hlk Bd.returns (t := .boolean) (by simp) (hb hby own_d_prog_20_method_9_code_33) (by decide) (by decide) ⟨(show some (Value.int (0 : Int32)) = some (Value.int (own_in2 va vb cp)) by simp [own_in2, c1, c2]), N0, e0⟩
  refine own_go (fun _ hr => XS.icmpNo X0.here hx rfl (hb hby own_d_prog_20_method_9_code_21) rfl (flt c2).2.2.1 hr) ?_
  show own_Go p e below _ (s₁.setTop (mkF m 24 #[.val (.ref a), .val (.int cp), .val (.int (0 : Int32))] []))
  refine own_go (fun _ hr => XS.iconst X0.here hx rfl (hb hby own_d_prog_20_method_9_code_24) hr) ?_
  show own_Go p e below _ (s₁.setTop (mkF m 25 #[.val (.ref a), .val (.int cp), .val (.int (0 : Int32))] [(.int (1 : Int32))]))
  exact own_retN X0 hx hlk Bd.returns (t := .boolean) (by simp) (hb hby own_d_prog_20_method_9_code_25) (by decide) (by decide) ⟨(show some (Value.int (1 : Int32)) = some (Value.int (own_in2 va vb cp)) by simp [own_in2, c1, c2]), N0, e0⟩
def Q_in4 (Z : State) (va : Int32) (vb : Int32) (vc : Int32) (vd : Int32) (cp : Int32) (h0 : Heap) (n0 : Nat) (v : Option Value) (h : Heap) (L : List Loc) : Prop := v = some (.int (own_in4 va vb vc vd cp)) ∧ Fr n0 L ∧ h = h0
set_option maxRecDepth 65536 in
set_option maxHeartbeats 40000000 in
theorem rm_in4 (l : Launch) (Z : State) (a0 : Array Value) (hw : ∀ d ∈ tables_1, d.before a0 Z = true) (ws : List Jvm.Cond) (a : Addr) (k : ClassId) (va : Int32) (vb : Int32) (vc : Int32) (vd : Int32) (cp : Int32) (h0 : Heap) (n0 : Nat) (Z0 : n0 ≤ h0.size) (V : Arv Z h0 a k .int (4 : Int32) [(.int va), (.int vb), (.int vc), (.int vd)] (.int (0 : Int32))) :
    MetFree l (⟨"com/example/fitzroy/fitzroy/XmlVersion", "inRanges", "([II)Z"⟩ : MethodName) (head1 (Jvm.Cond.code (⟨"com/example/fitzroy/fitzroy/XmlVersion", "inRanges", "([II)Z"⟩ : MethodName) prog_20_method_9_code 3 (some .boolean) :: ws) ({ frames := 0, cells := 0, slots := 0, locals := 0 } : Room)) (fun aA U => aA = #[(.ref a), (.int cp)] ∧ Z.Warmed39 U.vm ∧ U.heap = h0) (fun _ _ _ _ _ => True) (fun _ U o U' => ∃ v L, o = .returned v ∧ Q_in4 Z va vb vc vd cp h0 n0 v U'.heap L ∧ FrameEnd U o U' L ({ frames := 0, cells := 0, slots := 0, locals := 0 } : Room).cells ({ frames := 0, cells := 0, slots := 0, locals := 0 } : Room).slots) := by
  refine MetFree.of_bodySF (plainFor_of_name own_pn_com_example_fitzroy_fitzroy_XmlVersion) hisR ?_
  intro p e s m args below meth c s₁ Bd hml0 hP hK
  obtain ⟨rfl, hZ, hh⟩ := hP
  have hx := Bd.exec
  have hby := Bd.bytes
  have hlk : meth.locks = false := BodyLoose.notSynchronized Bd
  have hml : c.maxLocals = 3 := hml0
  have hown : s.vm.findClass "com/example/fitzroy/fitzroy/XmlVersion" = some m.cls := findClass_of_methodNamed Bd.named
  have hnm := (name_of_methodNamed Bd.named Bd.method).1
  have X0 : Stand p l e ({ frames := 0, cells := 0, slots := 0, locals := 0 } : Room) s m #[(.ref a), (.int cp)] below meth c s₁ [] 0 0 := Stand.of_body Bd
  have e0 : s₁.heap = h0 := by rw [← hh, Bd.state]; rfl
  have N0 := Fr.nil n0
  show own_Go p e below (own_K s (Q_in4 Z va vb vc vd cp h0 n0) ({ frames := 0, cells := 0, slots := 0, locals := 0 } : Room).cells ({ frames := 0, cells := 0, slots := 0, locals := 0 } : Room).slots) (s₁.setTop (entryFrame m #[(.ref a), (.int cp)] 3))
  rw [(by first | (simp [entryFrame, mkF, argsToLocals, Value.category]; done) | rfl : entryFrame m #[(.ref a), (.int cp)] 3 = mkF m 0 #[.val (.ref a), .val (.int cp), .unset] [])]
  show own_Go p e below _ (s₁.setTop (mkF m 0 #[.val (.ref a), .val (.int cp), .unset] []))
  refine own_go (fun _ hr => XS.iconst X0.here hx rfl (hb hby own_d_prog_20_method_9_code_0) (XS.istoreN X0.here hx rfl (hb hby own_d_prog_20_method_9_code_1) rfl (l' := #[.val (.ref a), .val (.int cp), .val (.int (0 : Int32))]) rfl (XS.iloadN X0.here hx rfl (hb hby own_d_prog_20_method_9_code_2) rfl (XS.aloadN X0.here hx rfl (hb hby own_d_prog_20_method_9_code_3) rfl rfl (own_alen X0 hx hZ e0 V rfl rfl (hb hby own_d_prog_20_method_9_code_4) (XS.icmpNo X0.here hx rfl (hb hby own_d_prog_20_method_9_code_5) rfl (tlt (by decide)).2.1 (XS.iloadN X0.here hx rfl (hb hby own_d_prog_20_method_9_code_8) rfl (XS.aloadN X0.here hx rfl (hb hby own_d_prog_20_method_9_code_9) rfl rfl (XS.iloadN X0.here hx rfl (hb hby own_d_prog_20_method_9_code_10) rfl (own_iaload X0 hx hZ e0 V (0 : Int32) (.int va) ⟨by decide, by decide⟩ rfl rfl rfl (hb hby own_d_prog_20_method_9_code_11) hr)))))))))) ?_
  show own_Go p e below _ (s₁.setTop (mkF m 12 #[.val (.ref a), .val (.int cp), .val (.int (0 : Int32))] [(.int va), (.int cp)]))
  by_cases c1 : cp < va
  · refine own_go (fun _ hr => XS.icmpYes X0.here hx rfl (pc0 := 12) (pc' := 26) rfl (hb hby own_d_prog_20_method_9_code_12) rfl (tlt c1).1 (by decide) (by decide) hr) ?_
    show own_Go p e below _ (s₁.setTop (mkF m 26 #[.val (.ref a), .val (.int cp), .val (.int (0 : Int32))] []))
    refine own_go (fun _ hr => XS.iinc X0.here hx rfl (hb hby own_d_prog_20_method_9_code_26) rfl (l' := #[.val (.ref a), .val (.int cp), .val (.int (2 : Int32))]) rfl (XS.goto X0.here hx rfl (pc0 := 29) (pc' := 2) rfl (hb hby own_d_prog_20_method_9_code_29) (by decide) (by decide) (XS.iloadN X0.here hx rfl (hb hby own_d_prog_20_method_9_code_2) rfl (XS.aloadN X0.here hx rfl (hb hby own_d_prog_20_method_9_code_3) rfl rfl (own_alen X0 hx hZ e0 V rfl rfl (hb hby own_d_prog_20_method_9_code_4) (XS.icmpNo X0.here hx rfl (hb hby own_d_prog_20_method_9_code_5) rfl (tlt (by decide)).2.1 (XS.iloadN X0.here hx rfl (hb hby own_d_prog_20_method_9_code_8) rfl (XS.aloadN X0.here hx rfl (hb hby own_d_prog_20_method_9_code_9) rfl rfl (XS.iloadN X0.here hx rfl (hb hby own_d_prog_20_method_9_code_10) rfl (own_iaload X0 hx hZ e0 V (2 : Int32) (.int vc) ⟨by decide, by decide⟩ rfl rfl rfl (hb hby own_d_prog_20_method_9_code_11) hr)))))))))) ?_
    show own_Go p e below _ (s₁.setTop (mkF m 12 #[.val (.ref a), .val (.int cp), .val (.int (2 : Int32))] [(.int vc), (.int cp)]))
    by_cases c2 : cp < vc
    · refine own_go (fun _ hr => XS.icmpYes X0.here hx rfl (pc0 := 12) (pc' := 26) rfl (hb hby own_d_prog_20_method_9_code_12) rfl (tlt c2).1 (by decide) (by decide) hr) ?_
      show own_Go p e below _ (s₁.setTop (mkF m 26 #[.val (.ref a), .val (.int cp), .val (.int (2 : Int32))] []))
      refine own_go (fun _ hr => XS.iinc X0.here hx rfl (hb hby own_d_prog_20_method_9_code_26) rfl (l' := #[.val (.ref a), .val (.int cp), .val (.int (4 : Int32))]) rfl (XS.goto X0.here hx rfl (pc0 := 29) (pc' := 2) rfl (hb hby own_d_prog_20_method_9_code_29) (by decide) (by decide) (XS.iloadN X0.here hx rfl (hb hby own_d_prog_20_method_9_code_2) rfl (XS.aloadN X0.here hx rfl (hb hby own_d_prog_20_method_9_code_3) rfl rfl (own_alen X0 hx hZ e0 V rfl rfl (hb hby own_d_prog_20_method_9_code_4) (XS.icmpYes X0.here hx rfl (pc0 := 5) (pc' := 32) rfl (hb hby own_d_prog_20_method_9_code_5) rfl (flt (by decide)).2.1 (by decide) (by decide) (XS.iconst X0.here hx rfl (hb hby own_d_prog_20_method_9_code_32) hr))))))) ?_
      show own_Go p e below _ (s₁.setTop (mkF m 33 #[.val (.ref a), .val (.int cp), .val (.int (4 : Int32))] [(.int (0 : Int32))]))
      exact own_retN X0 hx hlk Bd.returns (t := .boolean) (by simp) (hb hby own_d_prog_20_method_9_code_33) (by decide) (by decide) ⟨(show some (Value.int (0 : Int32)) = some (Value.int (own_in4 va vb vc vd cp)) by simp [own_in4, c1, c2]), N0, e0⟩
    refine own_go (fun _ hr => XS.icmpNo X0.here hx rfl (hb hby own_d_prog_20_method_9_code_12) rfl (flt c2).1 hr) ?_
    show own_Go p e below _ (s₁.setTop (mkF m 15 #[.val (.ref a), .val (.int cp), .val (.int (2 : Int32))] []))
    refine own_go (fun _ hr => XS.iloadN X0.here hx rfl (hb hby own_d_prog_20_method_9_code_15) rfl (XS.aloadN X0.here hx rfl (hb hby own_d_prog_20_method_9_code_16) rfl rfl (XS.iloadN X0.here hx rfl (hb hby own_d_prog_20_method_9_code_17) rfl (XS.iconst X0.here hx rfl (hb hby own_d_prog_20_method_9_code_18) (XS.iadd X0.here hx rfl (hb hby own_d_prog_20_method_9_code_19) rfl (own_iaload X0 hx hZ e0 V (3 : Int32) (.int vd) ⟨by decide, by decide⟩ rfl rfl rfl (hb hby own_d_prog_20_method_9_code_20) hr)))))) ?_
    show own_Go p e below _ (s₁.setTop (mkF m 21 #[.val (.ref a), .val (.int cp), .val (.int (2 : Int32))] [(.int vd), (.int cp)]))
    by_cases c3 : vd < cp
    · refine own_go (fun _ hr => XS.icmpYes X0.here hx rfl (pc0 := 21) (pc' := 26) rfl (hb hby own_d_prog_20_method_9_code_21) rfl (tlt c3).2.2.1 (by decide) (by decide) hr) ?_
      show own_Go p e below _ (s₁.setTop (mkF m 26 #[.val (.ref a), .val (.int cp), .val (.int (2 : Int32))] []))
      refine own_go (fun _ hr => XS.iinc X0.here hx rfl (hb hby own_d_prog_20_method_9_code_26) rfl (l' := #[.val (.ref a), .val (.int cp), .val (.int (4 : Int32))]) rfl (XS.goto X0.here hx rfl (pc0 := 29) (pc' := 2) rfl (hb hby own_d_prog_20_method_9_code_29) (by decide) (by decide) (XS.iloadN X0.here hx rfl (hb hby own_d_prog_20_method_9_code_2) rfl (XS.aloadN X0.here hx rfl (hb hby own_d_prog_20_method_9_code_3) rfl rfl (own_alen X0 hx hZ e0 V rfl rfl (hb hby own_d_prog_20_method_9_code_4) (XS.icmpYes X0.here hx rfl (pc0 := 5) (pc' := 32) rfl (hb hby own_d_prog_20_method_9_code_5) rfl (flt (by decide)).2.1 (by decide) (by decide) (XS.iconst X0.here hx rfl (hb hby own_d_prog_20_method_9_code_32) hr))))))) ?_
      show own_Go p e below _ (s₁.setTop (mkF m 33 #[.val (.ref a), .val (.int cp), .val (.int (4 : Int32))] [(.int (0 : Int32))]))
      exact own_retN X0 hx hlk Bd.returns (t := .boolean) (by simp) (hb hby own_d_prog_20_method_9_code_33) (by decide) (by decide) ⟨(show some (Value.int (0 : Int32)) = some (Value.int (own_in4 va vb vc vd cp)) by simp [own_in4, c1, c2, c3]), N0, e0⟩
    refine own_go (fun _ hr => XS.icmpNo X0.here hx rfl (hb hby own_d_prog_20_method_9_code_21) rfl (flt c3).2.2.1 hr) ?_
    show own_Go p e below _ (s₁.setTop (mkF m 24 #[.val (.ref a), .val (.int cp), .val (.int (2 : Int32))] []))
    refine own_go (fun _ hr => XS.iconst X0.here hx rfl (hb hby own_d_prog_20_method_9_code_24) hr) ?_
    show own_Go p e below _ (s₁.setTop (mkF m 25 #[.val (.ref a), .val (.int cp), .val (.int (2 : Int32))] [(.int (1 : Int32))]))
    exact own_retN X0 hx hlk Bd.returns (t := .boolean) (by simp) (hb hby own_d_prog_20_method_9_code_25) (by decide) (by decide) ⟨(show some (Value.int (1 : Int32)) = some (Value.int (own_in4 va vb vc vd cp)) by simp [own_in4, c1, c2, c3]), N0, e0⟩
  refine own_go (fun _ hr => XS.icmpNo X0.here hx rfl (hb hby own_d_prog_20_method_9_code_12) rfl (flt c1).1 hr) ?_
  show own_Go p e below _ (s₁.setTop (mkF m 15 #[.val (.ref a), .val (.int cp), .val (.int (0 : Int32))] []))
  refine own_go (fun _ hr => XS.iloadN X0.here hx rfl (hb hby own_d_prog_20_method_9_code_15) rfl (XS.aloadN X0.here hx rfl (hb hby own_d_prog_20_method_9_code_16) rfl rfl (XS.iloadN X0.here hx rfl (hb hby own_d_prog_20_method_9_code_17) rfl (XS.iconst X0.here hx rfl (hb hby own_d_prog_20_method_9_code_18) (XS.iadd X0.here hx rfl (hb hby own_d_prog_20_method_9_code_19) rfl (own_iaload X0 hx hZ e0 V (1 : Int32) (.int vb) ⟨by decide, by decide⟩ rfl rfl rfl (hb hby own_d_prog_20_method_9_code_20) hr)))))) ?_
  show own_Go p e below _ (s₁.setTop (mkF m 21 #[.val (.ref a), .val (.int cp), .val (.int (0 : Int32))] [(.int vb), (.int cp)]))
  by_cases c4 : vb < cp
  · refine own_go (fun _ hr => XS.icmpYes X0.here hx rfl (pc0 := 21) (pc' := 26) rfl (hb hby own_d_prog_20_method_9_code_21) rfl (tlt c4).2.2.1 (by decide) (by decide) hr) ?_
    show own_Go p e below _ (s₁.setTop (mkF m 26 #[.val (.ref a), .val (.int cp), .val (.int (0 : Int32))] []))
    refine own_go (fun _ hr => XS.iinc X0.here hx rfl (hb hby own_d_prog_20_method_9_code_26) rfl (l' := #[.val (.ref a), .val (.int cp), .val (.int (2 : Int32))]) rfl (XS.goto X0.here hx rfl (pc0 := 29) (pc' := 2) rfl (hb hby own_d_prog_20_method_9_code_29) (by decide) (by decide) (XS.iloadN X0.here hx rfl (hb hby own_d_prog_20_method_9_code_2) rfl (XS.aloadN X0.here hx rfl (hb hby own_d_prog_20_method_9_code_3) rfl rfl (own_alen X0 hx hZ e0 V rfl rfl (hb hby own_d_prog_20_method_9_code_4) (XS.icmpNo X0.here hx rfl (hb hby own_d_prog_20_method_9_code_5) rfl (tlt (by decide)).2.1 (XS.iloadN X0.here hx rfl (hb hby own_d_prog_20_method_9_code_8) rfl (XS.aloadN X0.here hx rfl (hb hby own_d_prog_20_method_9_code_9) rfl rfl (XS.iloadN X0.here hx rfl (hb hby own_d_prog_20_method_9_code_10) rfl (own_iaload X0 hx hZ e0 V (2 : Int32) (.int vc) ⟨by decide, by decide⟩ rfl rfl rfl (hb hby own_d_prog_20_method_9_code_11) hr)))))))))) ?_
    show own_Go p e below _ (s₁.setTop (mkF m 12 #[.val (.ref a), .val (.int cp), .val (.int (2 : Int32))] [(.int vc), (.int cp)]))
    by_cases c5 : cp < vc
    · refine own_go (fun _ hr => XS.icmpYes X0.here hx rfl (pc0 := 12) (pc' := 26) rfl (hb hby own_d_prog_20_method_9_code_12) rfl (tlt c5).1 (by decide) (by decide) hr) ?_
      show own_Go p e below _ (s₁.setTop (mkF m 26 #[.val (.ref a), .val (.int cp), .val (.int (2 : Int32))] []))
      refine own_go (fun _ hr => XS.iinc X0.here hx rfl (hb hby own_d_prog_20_method_9_code_26) rfl (l' := #[.val (.ref a), .val (.int cp), .val (.int (4 : Int32))]) rfl (XS.goto X0.here hx rfl (pc0 := 29) (pc' := 2) rfl (hb hby own_d_prog_20_method_9_code_29) (by decide) (by decide) (XS.iloadN X0.here hx rfl (hb hby own_d_prog_20_method_9_code_2) rfl (XS.aloadN X0.here hx rfl (hb hby own_d_prog_20_method_9_code_3) rfl rfl (own_alen X0 hx hZ e0 V rfl rfl (hb hby own_d_prog_20_method_9_code_4) (XS.icmpYes X0.here hx rfl (pc0 := 5) (pc' := 32) rfl (hb hby own_d_prog_20_method_9_code_5) rfl (flt (by decide)).2.1 (by decide) (by decide) (XS.iconst X0.here hx rfl (hb hby own_d_prog_20_method_9_code_32) hr))))))) ?_
      show own_Go p e below _ (s₁.setTop (mkF m 33 #[.val (.ref a), .val (.int cp), .val (.int (4 : Int32))] [(.int (0 : Int32))]))
      exact own_retN X0 hx hlk Bd.returns (t := .boolean) (by simp) (hb hby own_d_prog_20_method_9_code_33) (by decide) (by decide) ⟨(show some (Value.int (0 : Int32)) = some (Value.int (own_in4 va vb vc vd cp)) by simp [own_in4, c1, c4, c5]), N0, e0⟩
    refine own_go (fun _ hr => XS.icmpNo X0.here hx rfl (hb hby own_d_prog_20_method_9_code_12) rfl (flt c5).1 hr) ?_
    show own_Go p e below _ (s₁.setTop (mkF m 15 #[.val (.ref a), .val (.int cp), .val (.int (2 : Int32))] []))
    refine own_go (fun _ hr => XS.iloadN X0.here hx rfl (hb hby own_d_prog_20_method_9_code_15) rfl (XS.aloadN X0.here hx rfl (hb hby own_d_prog_20_method_9_code_16) rfl rfl (XS.iloadN X0.here hx rfl (hb hby own_d_prog_20_method_9_code_17) rfl (XS.iconst X0.here hx rfl (hb hby own_d_prog_20_method_9_code_18) (XS.iadd X0.here hx rfl (hb hby own_d_prog_20_method_9_code_19) rfl (own_iaload X0 hx hZ e0 V (3 : Int32) (.int vd) ⟨by decide, by decide⟩ rfl rfl rfl (hb hby own_d_prog_20_method_9_code_20) hr)))))) ?_
    show own_Go p e below _ (s₁.setTop (mkF m 21 #[.val (.ref a), .val (.int cp), .val (.int (2 : Int32))] [(.int vd), (.int cp)]))
    by_cases c6 : vd < cp
    · refine own_go (fun _ hr => XS.icmpYes X0.here hx rfl (pc0 := 21) (pc' := 26) rfl (hb hby own_d_prog_20_method_9_code_21) rfl (tlt c6).2.2.1 (by decide) (by decide) hr) ?_
      show own_Go p e below _ (s₁.setTop (mkF m 26 #[.val (.ref a), .val (.int cp), .val (.int (2 : Int32))] []))
      refine own_go (fun _ hr => XS.iinc X0.here hx rfl (hb hby own_d_prog_20_method_9_code_26) rfl (l' := #[.val (.ref a), .val (.int cp), .val (.int (4 : Int32))]) rfl (XS.goto X0.here hx rfl (pc0 := 29) (pc' := 2) rfl (hb hby own_d_prog_20_method_9_code_29) (by decide) (by decide) (XS.iloadN X0.here hx rfl (hb hby own_d_prog_20_method_9_code_2) rfl (XS.aloadN X0.here hx rfl (hb hby own_d_prog_20_method_9_code_3) rfl rfl (own_alen X0 hx hZ e0 V rfl rfl (hb hby own_d_prog_20_method_9_code_4) (XS.icmpYes X0.here hx rfl (pc0 := 5) (pc' := 32) rfl (hb hby own_d_prog_20_method_9_code_5) rfl (flt (by decide)).2.1 (by decide) (by decide) (XS.iconst X0.here hx rfl (hb hby own_d_prog_20_method_9_code_32) hr))))))) ?_
      show own_Go p e below _ (s₁.setTop (mkF m 33 #[.val (.ref a), .val (.int cp), .val (.int (4 : Int32))] [(.int (0 : Int32))]))
      exact own_retN X0 hx hlk Bd.returns (t := .boolean) (by simp) (hb hby own_d_prog_20_method_9_code_33) (by decide) (by decide) ⟨(show some (Value.int (0 : Int32)) = some (Value.int (own_in4 va vb vc vd cp)) by simp [own_in4, c1, c4, c5, c6]), N0, e0⟩
    refine own_go (fun _ hr => XS.icmpNo X0.here hx rfl (hb hby own_d_prog_20_method_9_code_21) rfl (flt c6).2.2.1 hr) ?_
    show own_Go p e below _ (s₁.setTop (mkF m 24 #[.val (.ref a), .val (.int cp), .val (.int (2 : Int32))] []))
    refine own_go (fun _ hr => XS.iconst X0.here hx rfl (hb hby own_d_prog_20_method_9_code_24) hr) ?_
    show own_Go p e below _ (s₁.setTop (mkF m 25 #[.val (.ref a), .val (.int cp), .val (.int (2 : Int32))] [(.int (1 : Int32))]))
    exact own_retN X0 hx hlk Bd.returns (t := .boolean) (by simp) (hb hby own_d_prog_20_method_9_code_25) (by decide) (by decide) ⟨(show some (Value.int (1 : Int32)) = some (Value.int (own_in4 va vb vc vd cp)) by simp [own_in4, c1, c4, c5, c6]), N0, e0⟩
  refine own_go (fun _ hr => XS.icmpNo X0.here hx rfl (hb hby own_d_prog_20_method_9_code_21) rfl (flt c4).2.2.1 hr) ?_
  show own_Go p e below _ (s₁.setTop (mkF m 24 #[.val (.ref a), .val (.int cp), .val (.int (0 : Int32))] []))
  refine own_go (fun _ hr => XS.iconst X0.here hx rfl (hb hby own_d_prog_20_method_9_code_24) hr) ?_
  show own_Go p e below _ (s₁.setTop (mkF m 25 #[.val (.ref a), .val (.int cp), .val (.int (0 : Int32))] [(.int (1 : Int32))]))
  exact own_retN X0 hx hlk Bd.returns (t := .boolean) (by simp) (hb hby own_d_prog_20_method_9_code_25) (by decide) (by decide) ⟨(show some (Value.int (1 : Int32)) = some (Value.int (own_in4 va vb vc vd cp)) by simp [own_in4, c1, c4]), N0, e0⟩
theorem own_pd0 : parseMethodDescriptor "([II)Z" = some ⟨[(.array .int), .int], some .boolean⟩ := by decide +kernel
theorem own_pn_com_example_fitzroy_fitzroy_XmlVersionInRangesPinLaw : plainName "com/example/fitzroy/fitzroy/XmlVersionInRangesPinLaw" = true := by first | (simp [plainName, overriddenIn]; done) | decide +kernel
def Q_law (Z : State) (h0 : Heap) (n0 : Nat) (v : Option Value) (h : Heap) (L : List Loc) : Prop := v = some (.int 1) ∧ Fr n0 L
set_option maxRecDepth 65536 in
set_option maxHeartbeats 40000000 in
theorem rm_law (l : Launch) (Z : State) (a0 : Array Value) (hw : ∀ d ∈ tables_1, d.before a0 Z = true) (ws : List Jvm.Cond) (x0 : Int32) (xa : Int32) (xb : Int32) (xc : Int32) (xd : Int32) (xp : Int32) (h0 : Heap) (n0 : Nat) (Z0 : n0 ≤ h0.size) :
    MetFree l x (head1 (Jvm.Cond.code x code maxLocals ret :: ws) room_1) (fun aA U => aA = #[(.int x0), (.int xa), (.int xb), (.int xc), (.int xd), (.int xp)] ∧ Z.Warmed39 U.vm ∧ U.heap = h0) (fun _ _ _ _ _ => True) (fun _ U o U' => ∃ v L, o = .returned v ∧ Q_law Z h0 n0 v U'.heap L ∧ FrameEnd U o U' L room_1.cells room_1.slots) := by
  refine MetFree.of_bodySF (plainFor_of_name own_pn_com_example_fitzroy_fitzroy_XmlVersionInRangesPinLaw) hisR ?_
  intro p e s m args below meth c s₁ Bd hml0 hP hK
  obtain ⟨rfl, hZ, hh⟩ := hP
  have hx := Bd.exec
  have hby := Bd.bytes
  have hlk : meth.locks = false := BodyLoose.notSynchronized Bd
  have hml : c.maxLocals = 11 := hml0
  have hown : s.vm.findClass "com/example/fitzroy/fitzroy/XmlVersionInRangesPinLaw" = some m.cls := findClass_of_methodNamed Bd.named
  have hnm := (name_of_methodNamed Bd.named Bd.method).1
  have X0 : Stand p l e room_1 s m #[(.int x0), (.int xa), (.int xb), (.int xc), (.int xd), (.int xp)] below meth c s₁ [] 0 0 := Stand.of_body Bd
  have e0 : s₁.heap = h0 := by rw [← hh, Bd.state]; rfl
  have N0 := Fr.nil n0
  show own_Go p e below (own_K s (Q_law Z h0 n0) room_1.cells room_1.slots) (s₁.setTop (entryFrame m #[(.int x0), (.int xa), (.int xb), (.int xc), (.int xd), (.int xp)] maxLocals))
  rw [(by first | (simp [entryFrame, mkF, argsToLocals, Value.category, maxLocals]; done) | rfl : entryFrame m #[(.int x0), (.int xa), (.int xb), (.int xc), (.int xd), (.int xp)] maxLocals = mkF m 0 #[.val (.int x0), .val (.int xa), .val (.int xb), .val (.int xc), .val (.int xd), .val (.int xp), .unset, .unset, .unset, .unset, .unset] [])]
  show own_Go p e below _ (s₁.setTop (mkF m 0 #[.val (.int x0), .val (.int xa), .val (.int xb), .val (.int xc), .val (.int xd), .val (.int xp), .unset, .unset, .unset, .unset, .unset] []))
  refine own_go (fun _ hr => XS.iloadN X0.here hx rfl (hb hby at_0) rfl hr) ?_
  show own_Go p e below _ (s₁.setTop (mkF m 1 #[.val (.int x0), .val (.int xa), .val (.int xb), .val (.int xc), .val (.int xd), .val (.int xp), .unset, .unset, .unset, .unset, .unset] [(.int x0)]))
  refine own_go (X0.ldcInt hx hown (mvT hZ (hw _ (own_m 0 rfl))) rfl (hb hby at_1)) ?_
  show own_Go p e below _ (s₁.setTop (mkF m 3 #[.val (.int x0), .val (.int xa), .val (.int xb), .val (.int xc), .val (.int xd), .val (.int xp), .unset, .unset, .unset, .unset, .unset] [(.int (2147483647 : Int32)), (.int x0)]))
  refine own_go (fun _ hr => XS.iand X0.here hx rfl (hb hby at_3) rfl (XS.iconst X0.here hx rfl (hb hby at_4) hr)) ?_
  show own_Go p e below _ (s₁.setTop (mkF m 5 #[.val (.int x0), .val (.int xa), .val (.int xb), .val (.int xc), .val (.int xd), .val (.int xp), .unset, .unset, .unset, .unset, .unset] [(.int (3 : Int32)), (.int (x0 &&& (2147483647 : Int32)))]))
  have nz1 : (3 : Int32) ≠ (0 : Int32) := by decide
  refine own_go (fun _ hr => iremM X0 hx rfl (hb hby at_5) rfl nz1 hr) ?_
  show own_Go p e below _ (s₁.setTop (mkF m 6 #[.val (.int x0), .val (.int xa), .val (.int xb), .val (.int xc), .val (.int xd), .val (.int xp), .unset, .unset, .unset, .unset, .unset] [(.int ((x0 &&& (2147483647 : Int32)) % (3 : Int32)))]))
  refine own_go (fun _ hr => XS.istore X0.here hx rfl (hb hby at_6) rfl (l' := #[.val (.int x0), .val (.int xa), .val (.int xb), .val (.int xc), .val (.int xd), .val (.int xp), .val (.int ((x0 &&& (2147483647 : Int32)) % (3 : Int32))), .unset, .unset, .unset, .unset]) rfl hr) ?_
  show own_Go p e below _ (s₁.setTop (mkF m 8 #[.val (.int x0), .val (.int xa), .val (.int xb), .val (.int xc), .val (.int xd), .val (.int xp), .val (.int ((x0 &&& (2147483647 : Int32)) % (3 : Int32))), .unset, .unset, .unset, .unset] []))
  rcases own_mod3 x0 with hk2 | hk2 | hk2
  · rw [hk2]
    show own_Go p e below _ (s₁.setTop (mkF m 8 #[.val (.int x0), .val (.int xa), .val (.int xb), .val (.int xc), .val (.int xd), .val (.int xp), .val (.int (0 : Int32)), .unset, .unset, .unset, .unset] []))
    refine own_go (fun _ hr => XS.iload X0.here hx rfl (hb hby at_8) rfl (XS.ifNo X0.here hx rfl (hb hby at_10) rfl ((if0 _ _).trans (teq (by decide)).2) (XS.iconst X0.here hx rfl (hb hby at_13) hr))) ?_
    show own_Go p e below _ (s₁.setTop (mkF m 14 #[.val (.int x0), .val (.int xa), .val (.int xb), .val (.int xc), .val (.int xd), .val (.int xp), .val (.int (0 : Int32)), .unset, .unset, .unset, .unset] [(.int (0 : Int32))]))
    obtain ⟨T3, h3, k3, X3, e3, E3, A3, EA3, st3⟩ := newPE X0 hx hZ (hw _ (own_m 1 rfl)) e0 (g := (mkF m 14 #[.val (.int x0), .val (.int xa), .val (.int xb), .val (.int xc), .val (.int xd), .val (.int xp), .val (.int (0 : Int32)), .unset, .unset, .unset, .unset] [(.int (0 : Int32))])) rfl (hb hby at_14) rfl (by decide) (cap := 0) (by decide) (by decide) (by decide) (by decide) (ad := "[I") (by decide)
    obtain ⟨b3, g3⟩ : ∃ z, z = h0.size := ⟨_, rfl⟩
    rw [← g3] at A3 EA3 st3
    have ge4 : n0 ≤ b3 := Nat.le_trans Z0 (Nat.le_of_eq g3.symm)
    refine own_go st3 ?_
    have f5 : Arv Z h3 b3 k3 .int (0 : Int32) [] (.int (0 : Int32)) := (Arv.new A3 (by decide)).pad (pad_rep [] (.int (0 : Int32)) 0)
    show own_Go p e below _ (T3.setTop (mkF m 16 #[.val (.int x0), .val (.int xa), .val (.int xb), .val (.int xc), .val (.int xd), .val (.int xp), .val (.int (0 : Int32)), .unset, .unset, .unset, .unset] [(.ref b3)]))
    refine own_go (fun _ hr => XS.astore X3.here hx rfl (hb hby at_16) rfl rfl (l' := #[.val (.int x0), .val (.int xa), .val (.int xb), .val (.int xc), .val (.int xd), .val (.int xp), .val (.int (0 : Int32)), .val (.ref b3), .unset, .unset, .unset]) rfl (XS.goto X3.here hx rfl (pc0 := 18) (pc' := 65) rfl (hb hby at_18) (by decide) (by decide) (XS.iload X3.here hx rfl (hb hby at_65) rfl (XS.iconst X3.here hx rfl (hb hby at_67) (XS.icmpYes X3.here hx rfl (pc0 := 68) (pc' := 87) rfl (hb hby at_68) rfl (tlt (by decide)).1 (by decide) (by decide) (XS.iconst X3.here hx rfl (hb hby at_87) (XS.istore X3.here hx rfl (hb hby at_88) rfl (l' := #[.val (.int x0), .val (.int xa), .val (.int xb), .val (.int xc), .val (.int xd), .val (.int xp), .val (.int (0 : Int32)), .val (.ref b3), .val (.int (0 : Int32)), .unset, .unset]) rfl (XS.iload X3.here hx rfl (hb hby at_90) rfl (XS.iconst X3.here hx rfl (hb hby at_92) (XS.icmpYes X3.here hx rfl (pc0 := 93) (pc' := 113) rfl (hb hby at_93) rfl (tlt (by decide)).1 (by decide) (by decide) hr)))))))))) ?_
    show own_Go p e below _ (T3.setTop (mkF m 113 #[.val (.int x0), .val (.int xa), .val (.int xb), .val (.int xc), .val (.int xd), .val (.int xp), .val (.int (0 : Int32)), .val (.ref b3), .val (.int (0 : Int32)), .unset, .unset] []))
    refine own_go (fun _ hr => XS.iconst X3.here hx rfl (hb hby at_113) (XS.istore X3.here hx rfl (hb hby at_114) rfl (l' := #[.val (.int x0), .val (.int xa), .val (.int xb), .val (.int xc), .val (.int xd), .val (.int xp), .val (.int (0 : Int32)), .val (.ref b3), .val (.int (0 : Int32)), .val (.int (0 : Int32)), .unset]) rfl (XS.iload X3.here hx rfl (hb hby at_116) rfl (XS.ifNo X3.here hx rfl (hb hby at_118) rfl ((if0 _ _).trans (teq (by decide)).2) (XS.iload X3.here hx rfl (hb hby at_121) rfl (XS.ifYes X3.here hx rfl (pc0 := 123) (pc' := 130) rfl (hb hby at_123) rfl ((if0 _ _).trans (teq (by decide)).1) (by decide) (by decide) (XS.iconst X3.here hx rfl (hb hby at_130) (XS.istore X3.here hx rfl (hb hby at_131) rfl (l' := #[.val (.int x0), .val (.int xa), .val (.int xb), .val (.int xc), .val (.int xd), .val (.int xp), .val (.int (0 : Int32)), .val (.ref b3), .val (.int (0 : Int32)), .val (.int (0 : Int32)), .val (.int (0 : Int32))]) rfl (XS.aload X3.here hx rfl (hb hby at_133) rfl rfl (XS.iload X3.here hx rfl (hb hby at_135) rfl hr)))))))))) ?_
    show own_Go p e below _ (T3.setTop (mkF m 137 #[.val (.int x0), .val (.int xa), .val (.int xb), .val (.int xc), .val (.int xd), .val (.int xp), .val (.int (0 : Int32)), .val (.ref b3), .val (.int (0 : Int32)), .val (.int (0 : Int32)), .val (.int (0 : Int32))] [(.int xp), (.ref b3)]))
    have Z7 := (Nat.le_trans Z0 E3.1)
    refine own_cs X3 hx hZ hown (hw _ (own_m 2 rfl)) (hw _ (own_m 3 rfl)) (hw _ (own_m 4 rfl)) (hw _ (own_m 5 rfl)) (by decide) (rm := { frames := 0, cells := 0, slots := 0, locals := 0 }) (rm_in0 l Z a0 hw [] b3 k3 xp h3 n0 Z7 f5) (by decide) (W := 0) (by decide) (by decide) (by decide) e3 (by rw [hml]; rfl) (argsL := [(.ref b3), (.int xp)]) (lenOf own_pd0 rfl) (rest := []) rfl rfl (Nat.le_of_eq rfl) (hb hby at_137) ?_
    intro _ T6 L6 X6 hQ6
    obtain ⟨rfl, N6q, e6⟩ := hQ6
    have N6 := Fr.app N0 N6q
    show own_Go p e below _ (T6.setTop (mkF m 140 #[.val (.int x0), .val (.int xa), .val (.int xb), .val (.int xc), .val (.int xd), .val (.int xp), .val (.int (0 : Int32)), .val (.ref b3), .val (.int (0 : Int32)), .val (.int (0 : Int32)), .val (.int (0 : Int32))] [(.int (own_in0 xp))]))
    refine own_go (fun _ hr => XS.iload X6.here hx rfl (hb hby at_140) rfl hr) ?_
    show own_Go p e below _ (T6.setTop (mkF m 142 #[.val (.int x0), .val (.int xa), .val (.int xb), .val (.int xc), .val (.int xd), .val (.int xp), .val (.int (0 : Int32)), .val (.ref b3), .val (.int (0 : Int32)), .val (.int (0 : Int32)), .val (.int (0 : Int32))] [(.int (0 : Int32)), (.int (own_in0 xp))]))
    have c8 : (own_in0 xp) = (0 : Int32) := by simp [own_in0, hk2]
    refine own_go (fun _ hr => XS.icmpNo X6.here hx rfl (hb hby at_142) rfl (teq c8).2 hr) ?_
    show own_Go p e below _ (T6.setTop (mkF m 145 #[.val (.int x0), .val (.int xa), .val (.int xb), .val (.int xc), .val (.int xd), .val (.int xp), .val (.int (0 : Int32)), .val (.ref b3), .val (.int (0 : Int32)), .val (.int (0 : Int32)), .val (.int (0 : Int32))] []))
    refine own_go (fun _ hr => XS.iconst X6.here hx rfl (hb hby at_145) (XS.goto X6.here hx rfl (pc0 := 146) (pc' := 150) rfl (hb hby at_146) (by decide) (by decide) hr)) ?_
    show own_Go p e below _ (T6.setTop (mkF m 150 #[.val (.int x0), .val (.int xa), .val (.int xb), .val (.int xc), .val (.int xd), .val (.int xp), .val (.int (0 : Int32)), .val (.ref b3), .val (.int (0 : Int32)), .val (.int (0 : Int32)), .val (.int (0 : Int32))] [(.int (1 : Int32))]))
    exact own_retN X6 hx hlk Bd.returns (t := .boolean) (by simp) (hb hby at_150) (by decide) (by decide) ⟨rfl, N6⟩
  · rw [hk2]
    show own_Go p e below _ (s₁.setTop (mkF m 8 #[.val (.int x0), .val (.int xa), .val (.int xb), .val (.int xc), .val (.int xd), .val (.int xp), .val (.int (1 : Int32)), .unset, .unset, .unset, .unset] []))
    refine own_go (fun _ hr => XS.iload X0.here hx rfl (hb hby at_8) rfl (XS.ifYes X0.here hx rfl (pc0 := 10) (pc' := 21) rfl (hb hby at_10) rfl ((if0 _ _).trans (feq (by decide)).2) (by decide) (by decide) (XS.iload X0.here hx rfl (hb hby at_21) rfl (XS.iconst X0.here hx rfl (hb hby at_23) (XS.icmpNo X0.here hx rfl (hb hby at_24) rfl (teq (by decide)).2 (XS.iconst X0.here hx rfl (hb hby at_27) hr)))))) ?_
    show own_Go p e below _ (s₁.setTop (mkF m 28 #[.val (.int x0), .val (.int xa), .val (.int xb), .val (.int xc), .val (.int xd), .val (.int xp), .val (.int (1 : Int32)), .unset, .unset, .unset, .unset] [(.int (2 : Int32))]))
    obtain ⟨T9, h9, k9, X9, e9, E9, A9, EA9, st9⟩ := newPE X0 hx hZ (hw _ (own_m 1 rfl)) e0 (g := (mkF m 28 #[.val (.int x0), .val (.int xa), .val (.int xb), .val (.int xc), .val (.int xd), .val (.int xp), .val (.int (1 : Int32)), .unset, .unset, .unset, .unset] [(.int (2 : Int32))])) rfl (hb hby at_28) rfl (by decide) (cap := 2) (by decide) (by decide) (by decide) (by decide) (ad := "[I") (by decide)
    obtain ⟨b9, g9⟩ : ∃ z, z = h0.size := ⟨_, rfl⟩
    rw [← g9] at A9 EA9 st9
    have ge10 : n0 ≤ b9 := Nat.le_trans Z0 (Nat.le_of_eq g9.symm)
    refine own_go st9 ?_
    have f11 : Arv Z h9 b9 k9 .int (2 : Int32) [(.int (0 : Int32)), (.int (0 : Int32))] (.int (0 : Int32)) := (Arv.new A9 (by decide)).pad (pad_rep [] (.int (0 : Int32)) 2)
    show own_Go p e below _ (T9.setTop (mkF m 30 #[.val (.int x0), .val (.int xa), .val (.int xb), .val (.int xc), .val (.int xd), .val (.int xp), .val (.int (1 : Int32)), .unset, .unset, .unset, .unset] [(.ref b9)]))
    refine own_go (fun _ hr => XS.dup X9.here hx rfl (hb hby at_30) rfl rfl (XS.iconst X9.here hx rfl (hb hby at_31) (XS.iloadN X9.here hx rfl (hb hby at_32) rfl hr))) ?_
    show own_Go p e below _ (T9.setTop (mkF m 33 #[.val (.int x0), .val (.int xa), .val (.int xb), .val (.int xc), .val (.int xd), .val (.int xp), .val (.int (1 : Int32)), .unset, .unset, .unset, .unset] [(.int xa), (.int (0 : Int32)), (.ref b9), (.ref b9)]))
    refine own_stI X9 hx hZ e9 f11 (0 : Int32) xa 0 ⟨by decide, by decide⟩ rfl (Nat.le_of_ble_eq_true rfl)  [(.int xa), (.int (0 : Int32))] rfl N0 ge10 (hb hby at_33) ?_
    intro T12 h12 L12 X12 e12 W12 N12 f12
    show own_Go p e below _ (T12.setTop (mkF m 34 #[.val (.int x0), .val (.int xa), .val (.int xb), .val (.int xc), .val (.int xd), .val (.int xp), .val (.int (1 : Int32)), .unset, .unset, .unset, .unset] [(.ref b9)]))
    refine own_go (fun _ hr => XS.dup X12.here hx rfl (hb hby at_34) rfl rfl (XS.iconst X12.here hx rfl (hb hby at_35) (XS.iloadN X12.here hx rfl (hb hby at_36) rfl hr))) ?_
    show own_Go p e below _ (T12.setTop (mkF m 37 #[.val (.int x0), .val (.int xa), .val (.int xb), .val (.int xc), .val (.int xd), .val (.int xp), .val (.int (1 : Int32)), .unset, .unset, .unset, .unset] [(.int xb), (.int (1 : Int32)), (.ref b9), (.ref b9)]))
    refine own_stI X12 hx hZ e12 f12 (1 : Int32) xb 1 ⟨by decide, by decide⟩ rfl (Nat.le_of_ble_eq_true rfl)  [(.int xa), (.int xb)] rfl N12 ge10 (hb hby at_37) ?_
    intro T13 h13 L13 X13 e13 W13 N13 f13
    show own_Go p e below _ (T13.setTop (mkF m 38 #[.val (.int x0), .val (.int xa), .val (.int xb), .val (.int xc), .val (.int xd), .val (.int xp), .val (.int (1 : Int32)), .unset, .unset, .unset, .unset] [(.ref b9)]))
    refine own_go (fun _ hr => XS.astore X13.here hx rfl (hb hby at_38) rfl rfl (l' := #[.val (.int x0), .val (.int xa), .val (.int xb), .val (.int xc), .val (.int xd), .val (.int xp), .val (.int (1 : Int32)), .val (.ref b9), .unset, .unset, .unset]) rfl (XS.goto X13.here hx rfl (pc0 := 40) (pc' := 65) rfl (hb hby at_40) (by decide) (by decide) (XS.iload X13.here hx rfl (hb hby at_65) rfl (XS.iconst X13.here hx rfl (hb hby at_67) (XS.icmpNo X13.here hx rfl (hb hby at_68) rfl (flt (by decide)).1 (XS.iloadN X13.here hx rfl (hb hby at_71) rfl (XS.iload X13.here hx rfl (hb hby at_72) rfl hr))))))) ?_
    show own_Go p e below _ (T13.setTop (mkF m 74 #[.val (.int x0), .val (.int xa), .val (.int xb), .val (.int xc), .val (.int xd), .val (.int xp), .val (.int (1 : Int32)), .val (.ref b9), .unset, .unset, .unset] [(.int xp), (.int xa)]))
    by_cases c14 : xp < xa
    · refine own_go (fun _ hr => XS.icmpYes X13.here hx rfl (pc0 := 74) (pc' := 87) rfl (hb hby at_74) rfl (tlt c14).2.2.1 (by decide) (by decide) hr) ?_
      show own_Go p e below _ (T13.setTop (mkF m 87 #[.val (.int x0), .val (.int xa), .val (.int xb), .val (.int xc), .val (.int xd), .val (.int xp), .val (.int (1 : Int32)), .val (.ref b9), .unset, .unset, .unset] []))
      refine own_go (fun _ hr => XS.iconst X13.here hx rfl (hb hby at_87) (XS.istore X13.here hx rfl (hb hby at_88) rfl (l' := #[.val (.int x0), .val (.int xa), .val (.int xb), .val (.int xc), .val (.int xd), .val (.int xp), .val (.int (1 : Int32)), .val (.ref b9), .val (.int (0 : Int32)), .unset, .unset]) rfl (XS.iload X13.here hx rfl (hb hby at_90) rfl (XS.iconst X13.here hx rfl (hb hby at_92) (XS.icmpYes X13.here hx rfl (pc0 := 93) (pc' := 113) rfl (hb hby at_93) rfl (tlt (by decide)).1 (by decide) (by decide) (XS.iconst X13.here hx rfl (hb hby at_113) (XS.istore X13.here hx rfl (hb hby at_114) rfl (l' := #[.val (.int x0), .val (.int xa), .val (.int xb), .val (.int xc), .val (.int xd), .val (.int xp), .val (.int (1 : Int32)), .val (.ref b9), .val (.int (0 : Int32)), .val (.int (0 : Int32)), .unset]) rfl (XS.iload X13.here hx rfl (hb hby at_116) rfl (XS.ifNo X13.here hx rfl (hb hby at_118) rfl ((if0 _ _).trans (teq (by decide)).2) (XS.iload X13.here hx rfl (hb hby at_121) rfl hr)))))))))) ?_
      show own_Go p e below _ (T13.setTop (mkF m 123 #[.val (.int x0), .val (.int xa), .val (.int xb), .val (.int xc), .val (.int xd), .val (.int xp), .val (.int (1 : Int32)), .val (.ref b9), .val (.int (0 : Int32)), .val (.int (0 : Int32)), .unset] [(.int (0 : Int32))]))
      refine own_go (fun _ hr => XS.ifYes X13.here hx rfl (pc0 := 123) (pc' := 130) rfl (hb hby at_123) rfl ((if0 _ _).trans (teq (by decide)).1) (by decide) (by decide) (XS.iconst X13.here hx rfl (hb hby at_130) (XS.istore X13.here hx rfl (hb hby at_131) rfl (l' := #[.val (.int x0), .val (.int xa), .val (.int xb), .val (.int xc), .val (.int xd), .val (.int xp), .val (.int (1 : Int32)), .val (.ref b9), .val (.int (0 : Int32)), .val (.int (0 : Int32)), .val (.int (0 : Int32))]) rfl (XS.aload X13.here hx rfl (hb hby at_133) rfl rfl (XS.iload X13.here hx rfl (hb hby at_135) rfl hr))))) ?_
      show own_Go p e below _ (T13.setTop (mkF m 137 #[.val (.int x0), .val (.int xa), .val (.int xb), .val (.int xc), .val (.int xd), .val (.int xp), .val (.int (1 : Int32)), .val (.ref b9), .val (.int (0 : Int32)), .val (.int (0 : Int32)), .val (.int (0 : Int32))] [(.int xp), (.ref b9)]))
      have Z16 := (Nat.le_trans (Nat.le_trans (Nat.le_trans Z0 E9.1) (Nat.le_of_eq W12.size.symm)) (Nat.le_of_eq W13.size.symm))
      refine own_cs X13 hx hZ hown (hw _ (own_m 2 rfl)) (hw _ (own_m 3 rfl)) (hw _ (own_m 4 rfl)) (hw _ (own_m 5 rfl)) (by decide) (rm := { frames := 0, cells := 0, slots := 0, locals := 0 }) (rm_in2 l Z a0 hw [] b9 k9 xa xb xp h13 n0 Z16 f13) (by decide) (W := 0) (by decide) (by decide) (by decide) e13 (by rw [hml]; rfl) (argsL := [(.ref b9), (.int xp)]) (lenOf own_pd0 rfl) (rest := []) rfl rfl (Nat.le_of_eq rfl) (hb hby at_137) ?_
      intro _ T15 L15 X15 hQ15
      obtain ⟨rfl, N15q, e15⟩ := hQ15
      have N15 := Fr.app N13 N15q
      show own_Go p e below _ (T15.setTop (mkF m 140 #[.val (.int x0), .val (.int xa), .val (.int xb), .val (.int xc), .val (.int xd), .val (.int xp), .val (.int (1 : Int32)), .val (.ref b9), .val (.int (0 : Int32)), .val (.int (0 : Int32)), .val (.int (0 : Int32))] [(.int (own_in2 xa xb xp))]))
      refine own_go (fun _ hr => XS.iload X15.here hx rfl (hb hby at_140) rfl hr) ?_
      show own_Go p e below _ (T15.setTop (mkF m 142 #[.val (.int x0), .val (.int xa), .val (.int xb), .val (.int xc), .val (.int xd), .val (.int xp), .val (.int (1 : Int32)), .val (.ref b9), .val (.int (0 : Int32)), .val (.int (0 : Int32)), .val (.int (0 : Int32))] [(.int (0 : Int32)), (.int (own_in2 xa xb xp))]))
      have c17 : (own_in2 xa xb xp) = (0 : Int32) := by simp [own_in2, hk2, c14]
      refine own_go (fun _ hr => XS.icmpNo X15.here hx rfl (hb hby at_142) rfl (teq c17).2 hr) ?_
      show own_Go p e below _ (T15.setTop (mkF m 145 #[.val (.int x0), .val (.int xa), .val (.int xb), .val (.int xc), .val (.int xd), .val (.int xp), .val (.int (1 : Int32)), .val (.ref b9), .val (.int (0 : Int32)), .val (.int (0 : Int32)), .val (.int (0 : Int32))] []))
      refine own_go (fun _ hr => XS.iconst X15.here hx rfl (hb hby at_145) (XS.goto X15.here hx rfl (pc0 := 146) (pc' := 150) rfl (hb hby at_146) (by decide) (by decide) hr)) ?_
      show own_Go p e below _ (T15.setTop (mkF m 150 #[.val (.int x0), .val (.int xa), .val (.int xb), .val (.int xc), .val (.int xd), .val (.int xp), .val (.int (1 : Int32)), .val (.ref b9), .val (.int (0 : Int32)), .val (.int (0 : Int32)), .val (.int (0 : Int32))] [(.int (1 : Int32))]))
      exact own_retN X15 hx hlk Bd.returns (t := .boolean) (by simp) (hb hby at_150) (by decide) (by decide) ⟨rfl, N15⟩
    refine own_go (fun _ hr => XS.icmpNo X13.here hx rfl (hb hby at_74) rfl (flt c14).2.2.1 hr) ?_
    show own_Go p e below _ (T13.setTop (mkF m 77 #[.val (.int x0), .val (.int xa), .val (.int xb), .val (.int xc), .val (.int xd), .val (.int xp), .val (.int (1 : Int32)), .val (.ref b9), .unset, .unset, .unset] []))
    refine own_go (fun _ hr => XS.iload X13.here hx rfl (hb hby at_77) rfl (XS.iloadN X13.here hx rfl (hb hby at_79) rfl hr)) ?_
    show own_Go p e below _ (T13.setTop (mkF m 80 #[.val (.int x0), .val (.int xa), .val (.int xb), .val (.int xc), .val (.int xd), .val (.int xp), .val (.int (1 : Int32)), .val (.ref b9), .unset, .unset, .unset] [(.int xb), (.int xp)]))
    by_cases c18 : xb < xp
    · refine own_go (fun _ hr => XS.icmpYes X13.here hx rfl (pc0 := 80) (pc' := 87) rfl (hb hby at_80) rfl (tlt c18).2.2.1 (by decide) (by decide) hr) ?_
      show own_Go p e below _ (T13.setTop (mkF m 87 #[.val (.int x0), .val (.int xa), .val (.int xb), .val (.int xc), .val (.int xd), .val (.int xp), .val (.int (1 : Int32)), .val (.ref b9), .unset, .unset, .unset] []))
      refine own_go (fun _ hr => XS.iconst X13.here hx rfl (hb hby at_87) (XS.istore X13.here hx rfl (hb hby at_88) rfl (l' := #[.val (.int x0), .val (.int xa), .val (.int xb), .val (.int xc), .val (.int xd), .val (.int xp), .val (.int (1 : Int32)), .val (.ref b9), .val (.int (0 : Int32)), .unset, .unset]) rfl (XS.iload X13.here hx rfl (hb hby at_90) rfl (XS.iconst X13.here hx rfl (hb hby at_92) (XS.icmpYes X13.here hx rfl (pc0 := 93) (pc' := 113) rfl (hb hby at_93) rfl (tlt (by decide)).1 (by decide) (by decide) (XS.iconst X13.here hx rfl (hb hby at_113) (XS.istore X13.here hx rfl (hb hby at_114) rfl (l' := #[.val (.int x0), .val (.int xa), .val (.int xb), .val (.int xc), .val (.int xd), .val (.int xp), .val (.int (1 : Int32)), .val (.ref b9), .val (.int (0 : Int32)), .val (.int (0 : Int32)), .unset]) rfl (XS.iload X13.here hx rfl (hb hby at_116) rfl (XS.ifNo X13.here hx rfl (hb hby at_118) rfl ((if0 _ _).trans (teq (by decide)).2) (XS.iload X13.here hx rfl (hb hby at_121) rfl hr)))))))))) ?_
      show own_Go p e below _ (T13.setTop (mkF m 123 #[.val (.int x0), .val (.int xa), .val (.int xb), .val (.int xc), .val (.int xd), .val (.int xp), .val (.int (1 : Int32)), .val (.ref b9), .val (.int (0 : Int32)), .val (.int (0 : Int32)), .unset] [(.int (0 : Int32))]))
      refine own_go (fun _ hr => XS.ifYes X13.here hx rfl (pc0 := 123) (pc' := 130) rfl (hb hby at_123) rfl ((if0 _ _).trans (teq (by decide)).1) (by decide) (by decide) (XS.iconst X13.here hx rfl (hb hby at_130) (XS.istore X13.here hx rfl (hb hby at_131) rfl (l' := #[.val (.int x0), .val (.int xa), .val (.int xb), .val (.int xc), .val (.int xd), .val (.int xp), .val (.int (1 : Int32)), .val (.ref b9), .val (.int (0 : Int32)), .val (.int (0 : Int32)), .val (.int (0 : Int32))]) rfl (XS.aload X13.here hx rfl (hb hby at_133) rfl rfl (XS.iload X13.here hx rfl (hb hby at_135) rfl hr))))) ?_
      show own_Go p e below _ (T13.setTop (mkF m 137 #[.val (.int x0), .val (.int xa), .val (.int xb), .val (.int xc), .val (.int xd), .val (.int xp), .val (.int (1 : Int32)), .val (.ref b9), .val (.int (0 : Int32)), .val (.int (0 : Int32)), .val (.int (0 : Int32))] [(.int xp), (.ref b9)]))
      have Z20 := (Nat.le_trans (Nat.le_trans (Nat.le_trans Z0 E9.1) (Nat.le_of_eq W12.size.symm)) (Nat.le_of_eq W13.size.symm))
      refine own_cs X13 hx hZ hown (hw _ (own_m 2 rfl)) (hw _ (own_m 3 rfl)) (hw _ (own_m 4 rfl)) (hw _ (own_m 5 rfl)) (by decide) (rm := { frames := 0, cells := 0, slots := 0, locals := 0 }) (rm_in2 l Z a0 hw [] b9 k9 xa xb xp h13 n0 Z20 f13) (by decide) (W := 0) (by decide) (by decide) (by decide) e13 (by rw [hml]; rfl) (argsL := [(.ref b9), (.int xp)]) (lenOf own_pd0 rfl) (rest := []) rfl rfl (Nat.le_of_eq rfl) (hb hby at_137) ?_
      intro _ T19 L19 X19 hQ19
      obtain ⟨rfl, N19q, e19⟩ := hQ19
      have N19 := Fr.app N13 N19q
      show own_Go p e below _ (T19.setTop (mkF m 140 #[.val (.int x0), .val (.int xa), .val (.int xb), .val (.int xc), .val (.int xd), .val (.int xp), .val (.int (1 : Int32)), .val (.ref b9), .val (.int (0 : Int32)), .val (.int (0 : Int32)), .val (.int (0 : Int32))] [(.int (own_in2 xa xb xp))]))
      refine own_go (fun _ hr => XS.iload X19.here hx rfl (hb hby at_140) rfl hr) ?_
      show own_Go p e below _ (T19.setTop (mkF m 142 #[.val (.int x0), .val (.int xa), .val (.int xb), .val (.int xc), .val (.int xd), .val (.int xp), .val (.int (1 : Int32)), .val (.ref b9), .val (.int (0 : Int32)), .val (.int (0 : Int32)), .val (.int (0 : Int32))] [(.int (0 : Int32)), (.int (own_in2 xa xb xp))]))
      have c21 : (own_in2 xa xb xp) = (0 : Int32) := by simp [own_in2, hk2, c14, c18]
      refine own_go (fun _ hr => XS.icmpNo X19.here hx rfl (hb hby at_142) rfl (teq c21).2 hr) ?_
      show own_Go p e below _ (T19.setTop (mkF m 145 #[.val (.int x0), .val (.int xa), .val (.int xb), .val (.int xc), .val (.int xd), .val (.int xp), .val (.int (1 : Int32)), .val (.ref b9), .val (.int (0 : Int32)), .val (.int (0 : Int32)), .val (.int (0 : Int32))] []))
      refine own_go (fun _ hr => XS.iconst X19.here hx rfl (hb hby at_145) (XS.goto X19.here hx rfl (pc0 := 146) (pc' := 150) rfl (hb hby at_146) (by decide) (by decide) hr)) ?_
      show own_Go p e below _ (T19.setTop (mkF m 150 #[.val (.int x0), .val (.int xa), .val (.int xb), .val (.int xc), .val (.int xd), .val (.int xp), .val (.int (1 : Int32)), .val (.ref b9), .val (.int (0 : Int32)), .val (.int (0 : Int32)), .val (.int (0 : Int32))] [(.int (1 : Int32))]))
      exact own_retN X19 hx hlk Bd.returns (t := .boolean) (by simp) (hb hby at_150) (by decide) (by decide) ⟨rfl, N19⟩
    refine own_go (fun _ hr => XS.icmpNo X13.here hx rfl (hb hby at_80) rfl (flt c18).2.2.1 hr) ?_
    show own_Go p e below _ (T13.setTop (mkF m 83 #[.val (.int x0), .val (.int xa), .val (.int xb), .val (.int xc), .val (.int xd), .val (.int xp), .val (.int (1 : Int32)), .val (.ref b9), .unset, .unset, .unset] []))
    refine own_go (fun _ hr => XS.iconst X13.here hx rfl (hb hby at_83) (XS.goto X13.here hx rfl (pc0 := 84) (pc' := 88) rfl (hb hby at_84) (by decide) (by decide) (XS.istore X13.here hx rfl (hb hby at_88) rfl (l' := #[.val (.int x0), .val (.int xa), .val (.int xb), .val (.int xc), .val (.int xd), .val (.int xp), .val (.int (1 : Int32)), .val (.ref b9), .val (.int (1 : Int32)), .unset, .unset]) rfl (XS.iload X13.here hx rfl (hb hby at_90) rfl (XS.iconst X13.here hx rfl (hb hby at_92) (XS.icmpYes X13.here hx rfl (pc0 := 93) (pc' := 113) rfl (hb hby at_93) rfl (tlt (by decide)).1 (by decide) (by decide) (XS.iconst X13.here hx rfl (hb hby at_113) (XS.istore X13.here hx rfl (hb hby at_114) rfl (l' := #[.val (.int x0), .val (.int xa), .val (.int xb), .val (.int xc), .val (.int xd), .val (.int xp), .val (.int (1 : Int32)), .val (.ref b9), .val (.int (1 : Int32)), .val (.int (0 : Int32)), .unset]) rfl (XS.iload X13.here hx rfl (hb hby at_116) rfl (XS.ifYes X13.here hx rfl (pc0 := 118) (pc' := 126) rfl (hb hby at_118) rfl ((if0 _ _).trans (feq (by decide)).2) (by decide) (by decide) hr)))))))))) ?_
    show own_Go p e below _ (T13.setTop (mkF m 126 #[.val (.int x0), .val (.int xa), .val (.int xb), .val (.int xc), .val (.int xd), .val (.int xp), .val (.int (1 : Int32)), .val (.ref b9), .val (.int (1 : Int32)), .val (.int (0 : Int32)), .unset] []))
    refine own_go (fun _ hr => XS.iconst X13.here hx rfl (hb hby at_126) (XS.goto X13.here hx rfl (pc0 := 127) (pc' := 131) rfl (hb hby at_127) (by decide) (by decide) (XS.istore X13.here hx rfl (hb hby at_131) rfl (l' := #[.val (.int x0), .val (.int xa), .val (.int xb), .val (.int xc), .val (.int xd), .val (.int xp), .val (.int (1 : Int32)), .val (.ref b9), .val (.int (1 : Int32)), .val (.int (0 : Int32)), .val (.int (1 : Int32))]) rfl (XS.aload X13.here hx rfl (hb hby at_133) rfl rfl (XS.iload X13.here hx rfl (hb hby at_135) rfl hr))))) ?_
    show own_Go p e below _ (T13.setTop (mkF m 137 #[.val (.int x0), .val (.int xa), .val (.int xb), .val (.int xc), .val (.int xd), .val (.int xp), .val (.int (1 : Int32)), .val (.ref b9), .val (.int (1 : Int32)), .val (.int (0 : Int32)), .val (.int (1 : Int32))] [(.int xp), (.ref b9)]))
    have Z23 := (Nat.le_trans (Nat.le_trans (Nat.le_trans Z0 E9.1) (Nat.le_of_eq W12.size.symm)) (Nat.le_of_eq W13.size.symm))
    refine own_cs X13 hx hZ hown (hw _ (own_m 2 rfl)) (hw _ (own_m 3 rfl)) (hw _ (own_m 4 rfl)) (hw _ (own_m 5 rfl)) (by decide) (rm := { frames := 0, cells := 0, slots := 0, locals := 0 }) (rm_in2 l Z a0 hw [] b9 k9 xa xb xp h13 n0 Z23 f13) (by decide) (W := 0) (by decide) (by decide) (by decide) e13 (by rw [hml]; rfl) (argsL := [(.ref b9), (.int xp)]) (lenOf own_pd0 rfl) (rest := []) rfl rfl (Nat.le_of_eq rfl) (hb hby at_137) ?_
    intro _ T22 L22 X22 hQ22
    obtain ⟨rfl, N22q, e22⟩ := hQ22
    have N22 := Fr.app N13 N22q
    show own_Go p e below _ (T22.setTop (mkF m 140 #[.val (.int x0), .val (.int xa), .val (.int xb), .val (.int xc), .val (.int xd), .val (.int xp), .val (.int (1 : Int32)), .val (.ref b9), .val (.int (1 : Int32)), .val (.int (0 : Int32)), .val (.int (1 : Int32))] [(.int (own_in2 xa xb xp))]))
    refine own_go (fun _ hr => XS.iload X22.here hx rfl (hb hby at_140) rfl hr) ?_
    show own_Go p e below _ (T22.setTop (mkF m 142 #[.val (.int x0), .val (.int xa), .val (.int xb), .val (.int xc), .val (.int xd), .val (.int xp), .val (.int (1 : Int32)), .val (.ref b9), .val (.int (1 : Int32)), .val (.int (0 : Int32)), .val (.int (1 : Int32))] [(.int (1 : Int32)), (.int (own_in2 xa xb xp))]))
    have c24 : (own_in2 xa xb xp) = (1 : Int32) := by simp [own_in2, hk2, c14, c18]
    refine own_go (fun _ hr => XS.icmpNo X22.here hx rfl (hb hby at_142) rfl (teq c24).2 hr) ?_
    show own_Go p e below _ (T22.setTop (mkF m 145 #[.val (.int x0), .val (.int xa), .val (.int xb), .val (.int xc), .val (.int xd), .val (.int xp), .val (.int (1 : Int32)), .val (.ref b9), .val (.int (1 : Int32)), .val (.int (0 : Int32)), .val (.int (1 : Int32))] []))
    refine own_go (fun _ hr => XS.iconst X22.here hx rfl (hb hby at_145) (XS.goto X22.here hx rfl (pc0 := 146) (pc' := 150) rfl (hb hby at_146) (by decide) (by decide) hr)) ?_
    show own_Go p e below _ (T22.setTop (mkF m 150 #[.val (.int x0), .val (.int xa), .val (.int xb), .val (.int xc), .val (.int xd), .val (.int xp), .val (.int (1 : Int32)), .val (.ref b9), .val (.int (1 : Int32)), .val (.int (0 : Int32)), .val (.int (1 : Int32))] [(.int (1 : Int32))]))
    exact own_retN X22 hx hlk Bd.returns (t := .boolean) (by simp) (hb hby at_150) (by decide) (by decide) ⟨rfl, N22⟩
  · rw [hk2]
    show own_Go p e below _ (s₁.setTop (mkF m 8 #[.val (.int x0), .val (.int xa), .val (.int xb), .val (.int xc), .val (.int xd), .val (.int xp), .val (.int (2 : Int32)), .unset, .unset, .unset, .unset] []))
    refine own_go (fun _ hr => XS.iload X0.here hx rfl (hb hby at_8) rfl (XS.ifYes X0.here hx rfl (pc0 := 10) (pc' := 21) rfl (hb hby at_10) rfl ((if0 _ _).trans (feq (by decide)).2) (by decide) (by decide) (XS.iload X0.here hx rfl (hb hby at_21) rfl (XS.iconst X0.here hx rfl (hb hby at_23) (XS.icmpYes X0.here hx rfl (pc0 := 24) (pc' := 43) rfl (hb hby at_24) rfl (feq (by decide)).2 (by decide) (by decide) (XS.iconst X0.here hx rfl (hb hby at_43) hr)))))) ?_
    show own_Go p e below _ (s₁.setTop (mkF m 44 #[.val (.int x0), .val (.int xa), .val (.int xb), .val (.int xc), .val (.int xd), .val (.int xp), .val (.int (2 : Int32)), .unset, .unset, .unset, .unset] [(.int (4 : Int32))]))
    obtain ⟨T25, h25, k25, X25, e25, E25, A25, EA25, st25⟩ := newPE X0 hx hZ (hw _ (own_m 1 rfl)) e0 (g := (mkF m 44 #[.val (.int x0), .val (.int xa), .val (.int xb), .val (.int xc), .val (.int xd), .val (.int xp), .val (.int (2 : Int32)), .unset, .unset, .unset, .unset] [(.int (4 : Int32))])) rfl (hb hby at_44) rfl (by decide) (cap := 4) (by decide) (by decide) (by decide) (by decide) (ad := "[I") (by decide)
    obtain ⟨b25, g25⟩ : ∃ z, z = h0.size := ⟨_, rfl⟩
    rw [← g25] at A25 EA25 st25
    have ge26 : n0 ≤ b25 := Nat.le_trans Z0 (Nat.le_of_eq g25.symm)
    refine own_go st25 ?_
    have f27 : Arv Z h25 b25 k25 .int (4 : Int32) [(.int (0 : Int32)), (.int (0 : Int32)), (.int (0 : Int32)), (.int (0 : Int32))] (.int (0 : Int32)) := (Arv.new A25 (by decide)).pad (pad_rep [] (.int (0 : Int32)) 4)
    show own_Go p e below _ (T25.setTop (mkF m 46 #[.val (.int x0), .val (.int xa), .val (.int xb), .val (.int xc), .val (.int xd), .val (.int xp), .val (.int (2 : Int32)), .unset, .unset, .unset, .unset] [(.ref b25)]))
    refine own_go (fun _ hr => XS.dup X25.here hx rfl (hb hby at_46) rfl rfl (XS.iconst X25.here hx rfl (hb hby at_47) (XS.iloadN X25.here hx rfl (hb hby at_48) rfl hr))) ?_
    show own_Go p e below _ (T25.setTop (mkF m 49 #[.val (.int x0), .val (.int xa), .val (.int xb), .val (.int xc), .val (.int xd), .val (.int xp), .val (.int (2 : Int32)), .unset, .unset, .unset, .unset] [(.int xa), (.int (0 : Int32)), (.ref b25), (.ref b25)]))
    refine own_stI X25 hx hZ e25 f27 (0 : Int32) xa 0 ⟨by decide, by decide⟩ rfl (Nat.le_of_ble_eq_true rfl)  [(.int xa), (.int (0 : Int32)), (.int (0 : Int32)), (.int (0 : Int32))] rfl N0 ge26 (hb hby at_49) ?_
    intro T28 h28 L28 X28 e28 W28 N28 f28
    show own_Go p e below _ (T28.setTop (mkF m 50 #[.val (.int x0), .val (.int xa), .val (.int xb), .val (.int xc), .val (.int xd), .val (.int xp), .val (.int (2 : Int32)), .unset, .unset, .unset, .unset] [(.ref b25)]))
    refine own_go (fun _ hr => XS.dup X28.here hx rfl (hb hby at_50) rfl rfl (XS.iconst X28.here hx rfl (hb hby at_51) (XS.iloadN X28.here hx rfl (hb hby at_52) rfl hr))) ?_
    show own_Go p e below _ (T28.setTop (mkF m 53 #[.val (.int x0), .val (.int xa), .val (.int xb), .val (.int xc), .val (.int xd), .val (.int xp), .val (.int (2 : Int32)), .unset, .unset, .unset, .unset] [(.int xb), (.int (1 : Int32)), (.ref b25), (.ref b25)]))
    refine own_stI X28 hx hZ e28 f28 (1 : Int32) xb 1 ⟨by decide, by decide⟩ rfl (Nat.le_of_ble_eq_true rfl)  [(.int xa), (.int xb), (.int (0 : Int32)), (.int (0 : Int32))] rfl N28 ge26 (hb hby at_53) ?_
    intro T29 h29 L29 X29 e29 W29 N29 f29
    show own_Go p e below _ (T29.setTop (mkF m 54 #[.val (.int x0), .val (.int xa), .val (.int xb), .val (.int xc), .val (.int xd), .val (.int xp), .val (.int (2 : Int32)), .unset, .unset, .unset, .unset] [(.ref b25)]))
    refine own_go (fun _ hr => XS.dup X29.here hx rfl (hb hby at_54) rfl rfl (XS.iconst X29.here hx rfl (hb hby at_55) (XS.iloadN X29.here hx rfl (hb hby at_56) rfl hr))) ?_
    show own_Go p e below _ (T29.setTop (mkF m 57 #[.val (.int x0), .val (.int xa), .val (.int xb), .val (.int xc), .val (.int xd), .val (.int xp), .val (.int (2 : Int32)), .unset, .unset, .unset, .unset] [(.int xc), (.int (2 : Int32)), (.ref b25), (.ref b25)]))
    refine own_stI X29 hx hZ e29 f29 (2 : Int32) xc 2 ⟨by decide, by decide⟩ rfl (Nat.le_of_ble_eq_true rfl)  [(.int xa), (.int xb), (.int xc), (.int (0 : Int32))] rfl N29 ge26 (hb hby at_57) ?_
    intro T30 h30 L30 X30 e30 W30 N30 f30
    show own_Go p e below _ (T30.setTop (mkF m 58 #[.val (.int x0), .val (.int xa), .val (.int xb), .val (.int xc), .val (.int xd), .val (.int xp), .val (.int (2 : Int32)), .unset, .unset, .unset, .unset] [(.ref b25)]))
    refine own_go (fun _ hr => XS.dup X30.here hx rfl (hb hby at_58) rfl rfl (XS.iconst X30.here hx rfl (hb hby at_59) (XS.iload X30.here hx rfl (hb hby at_60) rfl hr))) ?_
    show own_Go p e below _ (T30.setTop (mkF m 62 #[.val (.int x0), .val (.int xa), .val (.int xb), .val (.int xc), .val (.int xd), .val (.int xp), .val (.int (2 : Int32)), .unset, .unset, .unset, .unset] [(.int xd), (.int (3 : Int32)), (.ref b25), (.ref b25)]))
    refine own_stI X30 hx hZ e30 f30 (3 : Int32) xd 3 ⟨by decide, by decide⟩ rfl (Nat.le_of_ble_eq_true rfl)  [(.int xa), (.int xb), (.int xc), (.int xd)] rfl N30 ge26 (hb hby at_62) ?_
    intro T31 h31 L31 X31 e31 W31 N31 f31
    show own_Go p e below _ (T31.setTop (mkF m 63 #[.val (.int x0), .val (.int xa), .val (.int xb), .val (.int xc), .val (.int xd), .val (.int xp), .val (.int (2 : Int32)), .unset, .unset, .unset, .unset] [(.ref b25)]))
    refine own_go (fun _ hr => XS.astore X31.here hx rfl (hb hby at_63) rfl rfl (l' := #[.val (.int x0), .val (.int xa), .val (.int xb), .val (.int xc), .val (.int xd), .val (.int xp), .val (.int (2 : Int32)), .val (.ref b25), .unset, .unset, .unset]) rfl (XS.iload X31.here hx rfl (hb hby at_65) rfl (XS.iconst X31.here hx rfl (hb hby at_67) (XS.icmpNo X31.here hx rfl (hb hby at_68) rfl (flt (by decide)).1 (XS.iloadN X31.here hx rfl (hb hby at_71) rfl (XS.iload X31.here hx rfl (hb hby at_72) rfl hr)))))) ?_
    show own_Go p e below _ (T31.setTop (mkF m 74 #[.val (.int x0), .val (.int xa), .val (.int xb), .val (.int xc), .val (.int xd), .val (.int xp), .val (.int (2 : Int32)), .val (.ref b25), .unset, .unset, .unset] [(.int xp), (.int xa)]))
    by_cases c32 : xp < xa
    · refine own_go (fun _ hr => XS.icmpYes X31.here hx rfl (pc0 := 74) (pc' := 87) rfl (hb hby at_74) rfl (tlt c32).2.2.1 (by decide) (by decide) hr) ?_
      show own_Go p e below _ (T31.setTop (mkF m 87 #[.val (.int x0), .val (.int xa), .val (.int xb), .val (.int xc), .val (.int xd), .val (.int xp), .val (.int (2 : Int32)), .val (.ref b25), .unset, .unset, .unset] []))
      refine own_go (fun _ hr => XS.iconst X31.here hx rfl (hb hby at_87) (XS.istore X31.here hx rfl (hb hby at_88) rfl (l' := #[.val (.int x0), .val (.int xa), .val (.int xb), .val (.int xc), .val (.int xd), .val (.int xp), .val (.int (2 : Int32)), .val (.ref b25), .val (.int (0 : Int32)), .unset, .unset]) rfl (XS.iload X31.here hx rfl (hb hby at_90) rfl (XS.iconst X31.here hx rfl (hb hby at_92) (XS.icmpNo X31.here hx rfl (hb hby at_93) rfl (flt (by decide)).1 (XS.iloadN X31.here hx rfl (hb hby at_96) rfl (XS.iload X31.here hx rfl (hb hby at_97) rfl hr))))))) ?_
      show own_Go p e below _ (T31.setTop (mkF m 99 #[.val (.int x0), .val (.int xa), .val (.int xb), .val (.int xc), .val (.int xd), .val (.int xp), .val (.int (2 : Int32)), .val (.ref b25), .val (.int (0 : Int32)), .unset, .unset] [(.int xp), (.int xc)]))
      by_cases c33 : xp < xc
      · refine own_go (fun _ hr => XS.icmpYes X31.here hx rfl (pc0 := 99) (pc' := 113) rfl (hb hby at_99) rfl (tlt c33).2.2.1 (by decide) (by decide) hr) ?_
        show own_Go p e below _ (T31.setTop (mkF m 113 #[.val (.int x0), .val (.int xa), .val (.int xb), .val (.int xc), .val (.int xd), .val (.int xp), .val (.int (2 : Int32)), .val (.ref b25), .val (.int (0 : Int32)), .unset, .unset] []))
        refine own_go (fun _ hr => XS.iconst X31.here hx rfl (hb hby at_113) (XS.istore X31.here hx rfl (hb hby at_114) rfl (l' := #[.val (.int x0), .val (.int xa), .val (.int xb), .val (.int xc), .val (.int xd), .val (.int xp), .val (.int (2 : Int32)), .val (.ref b25), .val (.int (0 : Int32)), .val (.int (0 : Int32)), .unset]) rfl (XS.iload X31.here hx rfl (hb hby at_116) rfl (XS.ifNo X31.here hx rfl (hb hby at_118) rfl ((if0 _ _).trans (teq (by decide)).2) (XS.iload X31.here hx rfl (hb hby at_121) rfl (XS.ifYes X31.here hx rfl (pc0 := 123) (pc' := 130) rfl (hb hby at_123) rfl ((if0 _ _).trans (teq (by decide)).1) (by decide) (by decide) (XS.iconst X31.here hx rfl (hb hby at_130) (XS.istore X31.here hx rfl (hb hby at_131) rfl (l' := #[.val (.int x0), .val (.int xa), .val (.int xb), .val (.int xc), .val (.int xd), .val (.int xp), .val (.int (2 : Int32)), .val (.ref b25), .val (.int (0 : Int32)), .val (.int (0 : Int32)), .val (.int (0 : Int32))]) rfl (XS.aload X31.here hx rfl (hb hby at_133) rfl rfl (XS.iload X31.here hx rfl (hb hby at_135) rfl hr)))))))))) ?_
        show own_Go p e below _ (T31.setTop (mkF m 137 #[.val (.int x0), .val (.int xa), .val (.int xb), .val (.int xc), .val (.int xd), .val (.int xp), .val (.int (2 : Int32)), .val (.ref b25), .val (.int (0 : Int32)), .val (.int (0 : Int32)), .val (.int (0 : Int32))] [(.int xp), (.ref b25)]))
        have Z35 := (Nat.le_trans (Nat.le_trans (Nat.le_trans (Nat.le_trans (Nat.le_trans Z0 E25.1) (Nat.le_of_eq W28.size.symm)) (Nat.le_of_eq W29.size.symm)) (Nat.le_of_eq W30.size.symm)) (Nat.le_of_eq W31.size.symm))
        refine own_cs X31 hx hZ hown (hw _ (own_m 2 rfl)) (hw _ (own_m 3 rfl)) (hw _ (own_m 4 rfl)) (hw _ (own_m 5 rfl)) (by decide) (rm := { frames := 0, cells := 0, slots := 0, locals := 0 }) (rm_in4 l Z a0 hw [] b25 k25 xa xb xc xd xp h31 n0 Z35 f31) (by decide) (W := 0) (by decide) (by decide) (by decide) e31 (by rw [hml]; rfl) (argsL := [(.ref b25), (.int xp)]) (lenOf own_pd0 rfl) (rest := []) rfl rfl (Nat.le_of_eq rfl) (hb hby at_137) ?_
        intro _ T34 L34 X34 hQ34
        obtain ⟨rfl, N34q, e34⟩ := hQ34
        have N34 := Fr.app N31 N34q
        show own_Go p e below _ (T34.setTop (mkF m 140 #[.val (.int x0), .val (.int xa), .val (.int xb), .val (.int xc), .val (.int xd), .val (.int xp), .val (.int (2 : Int32)), .val (.ref b25), .val (.int (0 : Int32)), .val (.int (0 : Int32)), .val (.int (0 : Int32))] [(.int (own_in4 xa xb xc xd xp))]))
        refine own_go (fun _ hr => XS.iload X34.here hx rfl (hb hby at_140) rfl hr) ?_
        show own_Go p e below _ (T34.setTop (mkF m 142 #[.val (.int x0), .val (.int xa), .val (.int xb), .val (.int xc), .val (.int xd), .val (.int xp), .val (.int (2 : Int32)), .val (.ref b25), .val (.int (0 : Int32)), .val (.int (0 : Int32)), .val (.int (0 : Int32))] [(.int (0 : Int32)), (.int (own_in4 xa xb xc xd xp))]))
        have c36 : (own_in4 xa xb xc xd xp) = (0 : Int32) := by simp [own_in4, hk2, c32, c33]
        refine own_go (fun _ hr => XS.icmpNo X34.here hx rfl (hb hby at_142) rfl (teq c36).2 hr) ?_
        show own_Go p e below _ (T34.setTop (mkF m 145 #[.val (.int x0), .val (.int xa), .val (.int xb), .val (.int xc), .val (.int xd), .val (.int xp), .val (.int (2 : Int32)), .val (.ref b25), .val (.int (0 : Int32)), .val (.int (0 : Int32)), .val (.int (0 : Int32))] []))
        refine own_go (fun _ hr => XS.iconst X34.here hx rfl (hb hby at_145) (XS.goto X34.here hx rfl (pc0 := 146) (pc' := 150) rfl (hb hby at_146) (by decide) (by decide) hr)) ?_
        show own_Go p e below _ (T34.setTop (mkF m 150 #[.val (.int x0), .val (.int xa), .val (.int xb), .val (.int xc), .val (.int xd), .val (.int xp), .val (.int (2 : Int32)), .val (.ref b25), .val (.int (0 : Int32)), .val (.int (0 : Int32)), .val (.int (0 : Int32))] [(.int (1 : Int32))]))
        exact own_retN X34 hx hlk Bd.returns (t := .boolean) (by simp) (hb hby at_150) (by decide) (by decide) ⟨rfl, N34⟩
      refine own_go (fun _ hr => XS.icmpNo X31.here hx rfl (hb hby at_99) rfl (flt c33).2.2.1 hr) ?_
      show own_Go p e below _ (T31.setTop (mkF m 102 #[.val (.int x0), .val (.int xa), .val (.int xb), .val (.int xc), .val (.int xd), .val (.int xp), .val (.int (2 : Int32)), .val (.ref b25), .val (.int (0 : Int32)), .unset, .unset] []))
      refine own_go (fun _ hr => XS.iload X31.here hx rfl (hb hby at_102) rfl (XS.iload X31.here hx rfl (hb hby at_104) rfl hr)) ?_
      show own_Go p e below _ (T31.setTop (mkF m 106 #[.val (.int x0), .val (.int xa), .val (.int xb), .val (.int xc), .val (.int xd), .val (.int xp), .val (.int (2 : Int32)), .val (.ref b25), .val (.int (0 : Int32)), .unset, .unset] [(.int xd), (.int xp)]))
      by_cases c37 : xd < xp
      · refine own_go (fun _ hr => XS.icmpYes X31.here hx rfl (pc0 := 106) (pc' := 113) rfl (hb hby at_106) rfl (tlt c37).2.2.1 (by decide) (by decide) hr) ?_
        show own_Go p e below _ (T31.setTop (mkF m 113 #[.val (.int x0), .val (.int xa), .val (.int xb), .val (.int xc), .val (.int xd), .val (.int xp), .val (.int (2 : Int32)), .val (.ref b25), .val (.int (0 : Int32)), .unset, .unset] []))
        refine own_go (fun _ hr => XS.iconst X31.here hx rfl (hb hby at_113) (XS.istore X31.here hx rfl (hb hby at_114) rfl (l' := #[.val (.int x0), .val (.int xa), .val (.int xb), .val (.int xc), .val (.int xd), .val (.int xp), .val (.int (2 : Int32)), .val (.ref b25), .val (.int (0 : Int32)), .val (.int (0 : Int32)), .unset]) rfl (XS.iload X31.here hx rfl (hb hby at_116) rfl (XS.ifNo X31.here hx rfl (hb hby at_118) rfl ((if0 _ _).trans (teq (by decide)).2) (XS.iload X31.here hx rfl (hb hby at_121) rfl (XS.ifYes X31.here hx rfl (pc0 := 123) (pc' := 130) rfl (hb hby at_123) rfl ((if0 _ _).trans (teq (by decide)).1) (by decide) (by decide) (XS.iconst X31.here hx rfl (hb hby at_130) (XS.istore X31.here hx rfl (hb hby at_131) rfl (l' := #[.val (.int x0), .val (.int xa), .val (.int xb), .val (.int xc), .val (.int xd), .val (.int xp), .val (.int (2 : Int32)), .val (.ref b25), .val (.int (0 : Int32)), .val (.int (0 : Int32)), .val (.int (0 : Int32))]) rfl (XS.aload X31.here hx rfl (hb hby at_133) rfl rfl (XS.iload X31.here hx rfl (hb hby at_135) rfl hr)))))))))) ?_
        show own_Go p e below _ (T31.setTop (mkF m 137 #[.val (.int x0), .val (.int xa), .val (.int xb), .val (.int xc), .val (.int xd), .val (.int xp), .val (.int (2 : Int32)), .val (.ref b25), .val (.int (0 : Int32)), .val (.int (0 : Int32)), .val (.int (0 : Int32))] [(.int xp), (.ref b25)]))
        have Z39 := (Nat.le_trans (Nat.le_trans (Nat.le_trans (Nat.le_trans (Nat.le_trans Z0 E25.1) (Nat.le_of_eq W28.size.symm)) (Nat.le_of_eq W29.size.symm)) (Nat.le_of_eq W30.size.symm)) (Nat.le_of_eq W31.size.symm))
        refine own_cs X31 hx hZ hown (hw _ (own_m 2 rfl)) (hw _ (own_m 3 rfl)) (hw _ (own_m 4 rfl)) (hw _ (own_m 5 rfl)) (by decide) (rm := { frames := 0, cells := 0, slots := 0, locals := 0 }) (rm_in4 l Z a0 hw [] b25 k25 xa xb xc xd xp h31 n0 Z39 f31) (by decide) (W := 0) (by decide) (by decide) (by decide) e31 (by rw [hml]; rfl) (argsL := [(.ref b25), (.int xp)]) (lenOf own_pd0 rfl) (rest := []) rfl rfl (Nat.le_of_eq rfl) (hb hby at_137) ?_
        intro _ T38 L38 X38 hQ38
        obtain ⟨rfl, N38q, e38⟩ := hQ38
        have N38 := Fr.app N31 N38q
        show own_Go p e below _ (T38.setTop (mkF m 140 #[.val (.int x0), .val (.int xa), .val (.int xb), .val (.int xc), .val (.int xd), .val (.int xp), .val (.int (2 : Int32)), .val (.ref b25), .val (.int (0 : Int32)), .val (.int (0 : Int32)), .val (.int (0 : Int32))] [(.int (own_in4 xa xb xc xd xp))]))
        refine own_go (fun _ hr => XS.iload X38.here hx rfl (hb hby at_140) rfl hr) ?_
        show own_Go p e below _ (T38.setTop (mkF m 142 #[.val (.int x0), .val (.int xa), .val (.int xb), .val (.int xc), .val (.int xd), .val (.int xp), .val (.int (2 : Int32)), .val (.ref b25), .val (.int (0 : Int32)), .val (.int (0 : Int32)), .val (.int (0 : Int32))] [(.int (0 : Int32)), (.int (own_in4 xa xb xc xd xp))]))
        have c40 : (own_in4 xa xb xc xd xp) = (0 : Int32) := by simp [own_in4, hk2, c32, c33, c37]
        refine own_go (fun _ hr => XS.icmpNo X38.here hx rfl (hb hby at_142) rfl (teq c40).2 hr) ?_
        show own_Go p e below _ (T38.setTop (mkF m 145 #[.val (.int x0), .val (.int xa), .val (.int xb), .val (.int xc), .val (.int xd), .val (.int xp), .val (.int (2 : Int32)), .val (.ref b25), .val (.int (0 : Int32)), .val (.int (0 : Int32)), .val (.int (0 : Int32))] []))
        refine own_go (fun _ hr => XS.iconst X38.here hx rfl (hb hby at_145) (XS.goto X38.here hx rfl (pc0 := 146) (pc' := 150) rfl (hb hby at_146) (by decide) (by decide) hr)) ?_
        show own_Go p e below _ (T38.setTop (mkF m 150 #[.val (.int x0), .val (.int xa), .val (.int xb), .val (.int xc), .val (.int xd), .val (.int xp), .val (.int (2 : Int32)), .val (.ref b25), .val (.int (0 : Int32)), .val (.int (0 : Int32)), .val (.int (0 : Int32))] [(.int (1 : Int32))]))
        exact own_retN X38 hx hlk Bd.returns (t := .boolean) (by simp) (hb hby at_150) (by decide) (by decide) ⟨rfl, N38⟩
      refine own_go (fun _ hr => XS.icmpNo X31.here hx rfl (hb hby at_106) rfl (flt c37).2.2.1 hr) ?_
      show own_Go p e below _ (T31.setTop (mkF m 109 #[.val (.int x0), .val (.int xa), .val (.int xb), .val (.int xc), .val (.int xd), .val (.int xp), .val (.int (2 : Int32)), .val (.ref b25), .val (.int (0 : Int32)), .unset, .unset] []))
      refine own_go (fun _ hr => XS.iconst X31.here hx rfl (hb hby at_109) (XS.goto X31.here hx rfl (pc0 := 110) (pc' := 114) rfl (hb hby at_110) (by decide) (by decide) (XS.istore X31.here hx rfl (hb hby at_114) rfl (l' := #[.val (.int x0), .val (.int xa), .val (.int xb), .val (.int xc), .val (.int xd), .val (.int xp), .val (.int (2 : Int32)), .val (.ref b25), .val (.int (0 : Int32)), .val (.int (1 : Int32)), .unset]) rfl (XS.iload X31.here hx rfl (hb hby at_116) rfl (XS.ifNo X31.here hx rfl (hb hby at_118) rfl ((if0 _ _).trans (teq (by decide)).2) (XS.iload X31.here hx rfl (hb hby at_121) rfl (XS.ifNo X31.here hx rfl (hb hby at_123) rfl ((if0 _ _).trans (feq (by decide)).1) (XS.iconst X31.here hx rfl (hb hby at_126) (XS.goto X31.here hx rfl (pc0 := 127) (pc' := 131) rfl (hb hby at_127) (by decide) (by decide) (XS.istore X31.here hx rfl (hb hby at_131) rfl (l' := #[.val (.int x0), .val (.int xa), .val (.int xb), .val (.int xc), .val (.int xd), .val (.int xp), .val (.int (2 : Int32)), .val (.ref b25), .val (.int (0 : Int32)), .val (.int (1 : Int32)), .val (.int (1 : Int32))]) rfl hr)))))))))) ?_
      show own_Go p e below _ (T31.setTop (mkF m 133 #[.val (.int x0), .val (.int xa), .val (.int xb), .val (.int xc), .val (.int xd), .val (.int xp), .val (.int (2 : Int32)), .val (.ref b25), .val (.int (0 : Int32)), .val (.int (1 : Int32)), .val (.int (1 : Int32))] []))
      refine own_go (fun _ hr => XS.aload X31.here hx rfl (hb hby at_133) rfl rfl (XS.iload X31.here hx rfl (hb hby at_135) rfl hr)) ?_
      show own_Go p e below _ (T31.setTop (mkF m 137 #[.val (.int x0), .val (.int xa), .val (.int xb), .val (.int xc), .val (.int xd), .val (.int xp), .val (.int (2 : Int32)), .val (.ref b25), .val (.int (0 : Int32)), .val (.int (1 : Int32)), .val (.int (1 : Int32))] [(.int xp), (.ref b25)]))
      have Z42 := (Nat.le_trans (Nat.le_trans (Nat.le_trans (Nat.le_trans (Nat.le_trans Z0 E25.1) (Nat.le_of_eq W28.size.symm)) (Nat.le_of_eq W29.size.symm)) (Nat.le_of_eq W30.size.symm)) (Nat.le_of_eq W31.size.symm))
      refine own_cs X31 hx hZ hown (hw _ (own_m 2 rfl)) (hw _ (own_m 3 rfl)) (hw _ (own_m 4 rfl)) (hw _ (own_m 5 rfl)) (by decide) (rm := { frames := 0, cells := 0, slots := 0, locals := 0 }) (rm_in4 l Z a0 hw [] b25 k25 xa xb xc xd xp h31 n0 Z42 f31) (by decide) (W := 0) (by decide) (by decide) (by decide) e31 (by rw [hml]; rfl) (argsL := [(.ref b25), (.int xp)]) (lenOf own_pd0 rfl) (rest := []) rfl rfl (Nat.le_of_eq rfl) (hb hby at_137) ?_
      intro _ T41 L41 X41 hQ41
      obtain ⟨rfl, N41q, e41⟩ := hQ41
      have N41 := Fr.app N31 N41q
      show own_Go p e below _ (T41.setTop (mkF m 140 #[.val (.int x0), .val (.int xa), .val (.int xb), .val (.int xc), .val (.int xd), .val (.int xp), .val (.int (2 : Int32)), .val (.ref b25), .val (.int (0 : Int32)), .val (.int (1 : Int32)), .val (.int (1 : Int32))] [(.int (own_in4 xa xb xc xd xp))]))
      refine own_go (fun _ hr => XS.iload X41.here hx rfl (hb hby at_140) rfl hr) ?_
      show own_Go p e below _ (T41.setTop (mkF m 142 #[.val (.int x0), .val (.int xa), .val (.int xb), .val (.int xc), .val (.int xd), .val (.int xp), .val (.int (2 : Int32)), .val (.ref b25), .val (.int (0 : Int32)), .val (.int (1 : Int32)), .val (.int (1 : Int32))] [(.int (1 : Int32)), (.int (own_in4 xa xb xc xd xp))]))
      have c43 : (own_in4 xa xb xc xd xp) = (1 : Int32) := by simp [own_in4, hk2, c32, c33, c37]
      refine own_go (fun _ hr => XS.icmpNo X41.here hx rfl (hb hby at_142) rfl (teq c43).2 hr) ?_
      show own_Go p e below _ (T41.setTop (mkF m 145 #[.val (.int x0), .val (.int xa), .val (.int xb), .val (.int xc), .val (.int xd), .val (.int xp), .val (.int (2 : Int32)), .val (.ref b25), .val (.int (0 : Int32)), .val (.int (1 : Int32)), .val (.int (1 : Int32))] []))
      refine own_go (fun _ hr => XS.iconst X41.here hx rfl (hb hby at_145) (XS.goto X41.here hx rfl (pc0 := 146) (pc' := 150) rfl (hb hby at_146) (by decide) (by decide) hr)) ?_
      show own_Go p e below _ (T41.setTop (mkF m 150 #[.val (.int x0), .val (.int xa), .val (.int xb), .val (.int xc), .val (.int xd), .val (.int xp), .val (.int (2 : Int32)), .val (.ref b25), .val (.int (0 : Int32)), .val (.int (1 : Int32)), .val (.int (1 : Int32))] [(.int (1 : Int32))]))
      exact own_retN X41 hx hlk Bd.returns (t := .boolean) (by simp) (hb hby at_150) (by decide) (by decide) ⟨rfl, N41⟩
    refine own_go (fun _ hr => XS.icmpNo X31.here hx rfl (hb hby at_74) rfl (flt c32).2.2.1 hr) ?_
    show own_Go p e below _ (T31.setTop (mkF m 77 #[.val (.int x0), .val (.int xa), .val (.int xb), .val (.int xc), .val (.int xd), .val (.int xp), .val (.int (2 : Int32)), .val (.ref b25), .unset, .unset, .unset] []))
    refine own_go (fun _ hr => XS.iload X31.here hx rfl (hb hby at_77) rfl (XS.iloadN X31.here hx rfl (hb hby at_79) rfl hr)) ?_
    show own_Go p e below _ (T31.setTop (mkF m 80 #[.val (.int x0), .val (.int xa), .val (.int xb), .val (.int xc), .val (.int xd), .val (.int xp), .val (.int (2 : Int32)), .val (.ref b25), .unset, .unset, .unset] [(.int xb), (.int xp)]))
    by_cases c44 : xb < xp
    · refine own_go (fun _ hr => XS.icmpYes X31.here hx rfl (pc0 := 80) (pc' := 87) rfl (hb hby at_80) rfl (tlt c44).2.2.1 (by decide) (by decide) hr) ?_
      show own_Go p e below _ (T31.setTop (mkF m 87 #[.val (.int x0), .val (.int xa), .val (.int xb), .val (.int xc), .val (.int xd), .val (.int xp), .val (.int (2 : Int32)), .val (.ref b25), .unset, .unset, .unset] []))
      refine own_go (fun _ hr => XS.iconst X31.here hx rfl (hb hby at_87) (XS.istore X31.here hx rfl (hb hby at_88) rfl (l' := #[.val (.int x0), .val (.int xa), .val (.int xb), .val (.int xc), .val (.int xd), .val (.int xp), .val (.int (2 : Int32)), .val (.ref b25), .val (.int (0 : Int32)), .unset, .unset]) rfl (XS.iload X31.here hx rfl (hb hby at_90) rfl (XS.iconst X31.here hx rfl (hb hby at_92) (XS.icmpNo X31.here hx rfl (hb hby at_93) rfl (flt (by decide)).1 (XS.iloadN X31.here hx rfl (hb hby at_96) rfl (XS.iload X31.here hx rfl (hb hby at_97) rfl hr))))))) ?_
      show own_Go p e below _ (T31.setTop (mkF m 99 #[.val (.int x0), .val (.int xa), .val (.int xb), .val (.int xc), .val (.int xd), .val (.int xp), .val (.int (2 : Int32)), .val (.ref b25), .val (.int (0 : Int32)), .unset, .unset] [(.int xp), (.int xc)]))
      by_cases c45 : xp < xc
      · refine own_go (fun _ hr => XS.icmpYes X31.here hx rfl (pc0 := 99) (pc' := 113) rfl (hb hby at_99) rfl (tlt c45).2.2.1 (by decide) (by decide) hr) ?_
        show own_Go p e below _ (T31.setTop (mkF m 113 #[.val (.int x0), .val (.int xa), .val (.int xb), .val (.int xc), .val (.int xd), .val (.int xp), .val (.int (2 : Int32)), .val (.ref b25), .val (.int (0 : Int32)), .unset, .unset] []))
        refine own_go (fun _ hr => XS.iconst X31.here hx rfl (hb hby at_113) (XS.istore X31.here hx rfl (hb hby at_114) rfl (l' := #[.val (.int x0), .val (.int xa), .val (.int xb), .val (.int xc), .val (.int xd), .val (.int xp), .val (.int (2 : Int32)), .val (.ref b25), .val (.int (0 : Int32)), .val (.int (0 : Int32)), .unset]) rfl (XS.iload X31.here hx rfl (hb hby at_116) rfl (XS.ifNo X31.here hx rfl (hb hby at_118) rfl ((if0 _ _).trans (teq (by decide)).2) (XS.iload X31.here hx rfl (hb hby at_121) rfl (XS.ifYes X31.here hx rfl (pc0 := 123) (pc' := 130) rfl (hb hby at_123) rfl ((if0 _ _).trans (teq (by decide)).1) (by decide) (by decide) (XS.iconst X31.here hx rfl (hb hby at_130) (XS.istore X31.here hx rfl (hb hby at_131) rfl (l' := #[.val (.int x0), .val (.int xa), .val (.int xb), .val (.int xc), .val (.int xd), .val (.int xp), .val (.int (2 : Int32)), .val (.ref b25), .val (.int (0 : Int32)), .val (.int (0 : Int32)), .val (.int (0 : Int32))]) rfl (XS.aload X31.here hx rfl (hb hby at_133) rfl rfl (XS.iload X31.here hx rfl (hb hby at_135) rfl hr)))))))))) ?_
        show own_Go p e below _ (T31.setTop (mkF m 137 #[.val (.int x0), .val (.int xa), .val (.int xb), .val (.int xc), .val (.int xd), .val (.int xp), .val (.int (2 : Int32)), .val (.ref b25), .val (.int (0 : Int32)), .val (.int (0 : Int32)), .val (.int (0 : Int32))] [(.int xp), (.ref b25)]))
        have Z47 := (Nat.le_trans (Nat.le_trans (Nat.le_trans (Nat.le_trans (Nat.le_trans Z0 E25.1) (Nat.le_of_eq W28.size.symm)) (Nat.le_of_eq W29.size.symm)) (Nat.le_of_eq W30.size.symm)) (Nat.le_of_eq W31.size.symm))
        refine own_cs X31 hx hZ hown (hw _ (own_m 2 rfl)) (hw _ (own_m 3 rfl)) (hw _ (own_m 4 rfl)) (hw _ (own_m 5 rfl)) (by decide) (rm := { frames := 0, cells := 0, slots := 0, locals := 0 }) (rm_in4 l Z a0 hw [] b25 k25 xa xb xc xd xp h31 n0 Z47 f31) (by decide) (W := 0) (by decide) (by decide) (by decide) e31 (by rw [hml]; rfl) (argsL := [(.ref b25), (.int xp)]) (lenOf own_pd0 rfl) (rest := []) rfl rfl (Nat.le_of_eq rfl) (hb hby at_137) ?_
        intro _ T46 L46 X46 hQ46
        obtain ⟨rfl, N46q, e46⟩ := hQ46
        have N46 := Fr.app N31 N46q
        show own_Go p e below _ (T46.setTop (mkF m 140 #[.val (.int x0), .val (.int xa), .val (.int xb), .val (.int xc), .val (.int xd), .val (.int xp), .val (.int (2 : Int32)), .val (.ref b25), .val (.int (0 : Int32)), .val (.int (0 : Int32)), .val (.int (0 : Int32))] [(.int (own_in4 xa xb xc xd xp))]))
        refine own_go (fun _ hr => XS.iload X46.here hx rfl (hb hby at_140) rfl hr) ?_
        show own_Go p e below _ (T46.setTop (mkF m 142 #[.val (.int x0), .val (.int xa), .val (.int xb), .val (.int xc), .val (.int xd), .val (.int xp), .val (.int (2 : Int32)), .val (.ref b25), .val (.int (0 : Int32)), .val (.int (0 : Int32)), .val (.int (0 : Int32))] [(.int (0 : Int32)), (.int (own_in4 xa xb xc xd xp))]))
        have c48 : (own_in4 xa xb xc xd xp) = (0 : Int32) := by simp [own_in4, hk2, c32, c44, c45]
        refine own_go (fun _ hr => XS.icmpNo X46.here hx rfl (hb hby at_142) rfl (teq c48).2 hr) ?_
        show own_Go p e below _ (T46.setTop (mkF m 145 #[.val (.int x0), .val (.int xa), .val (.int xb), .val (.int xc), .val (.int xd), .val (.int xp), .val (.int (2 : Int32)), .val (.ref b25), .val (.int (0 : Int32)), .val (.int (0 : Int32)), .val (.int (0 : Int32))] []))
        refine own_go (fun _ hr => XS.iconst X46.here hx rfl (hb hby at_145) (XS.goto X46.here hx rfl (pc0 := 146) (pc' := 150) rfl (hb hby at_146) (by decide) (by decide) hr)) ?_
        show own_Go p e below _ (T46.setTop (mkF m 150 #[.val (.int x0), .val (.int xa), .val (.int xb), .val (.int xc), .val (.int xd), .val (.int xp), .val (.int (2 : Int32)), .val (.ref b25), .val (.int (0 : Int32)), .val (.int (0 : Int32)), .val (.int (0 : Int32))] [(.int (1 : Int32))]))
        exact own_retN X46 hx hlk Bd.returns (t := .boolean) (by simp) (hb hby at_150) (by decide) (by decide) ⟨rfl, N46⟩
      refine own_go (fun _ hr => XS.icmpNo X31.here hx rfl (hb hby at_99) rfl (flt c45).2.2.1 hr) ?_
      show own_Go p e below _ (T31.setTop (mkF m 102 #[.val (.int x0), .val (.int xa), .val (.int xb), .val (.int xc), .val (.int xd), .val (.int xp), .val (.int (2 : Int32)), .val (.ref b25), .val (.int (0 : Int32)), .unset, .unset] []))
      refine own_go (fun _ hr => XS.iload X31.here hx rfl (hb hby at_102) rfl (XS.iload X31.here hx rfl (hb hby at_104) rfl hr)) ?_
      show own_Go p e below _ (T31.setTop (mkF m 106 #[.val (.int x0), .val (.int xa), .val (.int xb), .val (.int xc), .val (.int xd), .val (.int xp), .val (.int (2 : Int32)), .val (.ref b25), .val (.int (0 : Int32)), .unset, .unset] [(.int xd), (.int xp)]))
      by_cases c49 : xd < xp
      · refine own_go (fun _ hr => XS.icmpYes X31.here hx rfl (pc0 := 106) (pc' := 113) rfl (hb hby at_106) rfl (tlt c49).2.2.1 (by decide) (by decide) hr) ?_
        show own_Go p e below _ (T31.setTop (mkF m 113 #[.val (.int x0), .val (.int xa), .val (.int xb), .val (.int xc), .val (.int xd), .val (.int xp), .val (.int (2 : Int32)), .val (.ref b25), .val (.int (0 : Int32)), .unset, .unset] []))
        refine own_go (fun _ hr => XS.iconst X31.here hx rfl (hb hby at_113) (XS.istore X31.here hx rfl (hb hby at_114) rfl (l' := #[.val (.int x0), .val (.int xa), .val (.int xb), .val (.int xc), .val (.int xd), .val (.int xp), .val (.int (2 : Int32)), .val (.ref b25), .val (.int (0 : Int32)), .val (.int (0 : Int32)), .unset]) rfl (XS.iload X31.here hx rfl (hb hby at_116) rfl (XS.ifNo X31.here hx rfl (hb hby at_118) rfl ((if0 _ _).trans (teq (by decide)).2) (XS.iload X31.here hx rfl (hb hby at_121) rfl (XS.ifYes X31.here hx rfl (pc0 := 123) (pc' := 130) rfl (hb hby at_123) rfl ((if0 _ _).trans (teq (by decide)).1) (by decide) (by decide) (XS.iconst X31.here hx rfl (hb hby at_130) (XS.istore X31.here hx rfl (hb hby at_131) rfl (l' := #[.val (.int x0), .val (.int xa), .val (.int xb), .val (.int xc), .val (.int xd), .val (.int xp), .val (.int (2 : Int32)), .val (.ref b25), .val (.int (0 : Int32)), .val (.int (0 : Int32)), .val (.int (0 : Int32))]) rfl (XS.aload X31.here hx rfl (hb hby at_133) rfl rfl (XS.iload X31.here hx rfl (hb hby at_135) rfl hr)))))))))) ?_
        show own_Go p e below _ (T31.setTop (mkF m 137 #[.val (.int x0), .val (.int xa), .val (.int xb), .val (.int xc), .val (.int xd), .val (.int xp), .val (.int (2 : Int32)), .val (.ref b25), .val (.int (0 : Int32)), .val (.int (0 : Int32)), .val (.int (0 : Int32))] [(.int xp), (.ref b25)]))
        have Z51 := (Nat.le_trans (Nat.le_trans (Nat.le_trans (Nat.le_trans (Nat.le_trans Z0 E25.1) (Nat.le_of_eq W28.size.symm)) (Nat.le_of_eq W29.size.symm)) (Nat.le_of_eq W30.size.symm)) (Nat.le_of_eq W31.size.symm))
        refine own_cs X31 hx hZ hown (hw _ (own_m 2 rfl)) (hw _ (own_m 3 rfl)) (hw _ (own_m 4 rfl)) (hw _ (own_m 5 rfl)) (by decide) (rm := { frames := 0, cells := 0, slots := 0, locals := 0 }) (rm_in4 l Z a0 hw [] b25 k25 xa xb xc xd xp h31 n0 Z51 f31) (by decide) (W := 0) (by decide) (by decide) (by decide) e31 (by rw [hml]; rfl) (argsL := [(.ref b25), (.int xp)]) (lenOf own_pd0 rfl) (rest := []) rfl rfl (Nat.le_of_eq rfl) (hb hby at_137) ?_
        intro _ T50 L50 X50 hQ50
        obtain ⟨rfl, N50q, e50⟩ := hQ50
        have N50 := Fr.app N31 N50q
        show own_Go p e below _ (T50.setTop (mkF m 140 #[.val (.int x0), .val (.int xa), .val (.int xb), .val (.int xc), .val (.int xd), .val (.int xp), .val (.int (2 : Int32)), .val (.ref b25), .val (.int (0 : Int32)), .val (.int (0 : Int32)), .val (.int (0 : Int32))] [(.int (own_in4 xa xb xc xd xp))]))
        refine own_go (fun _ hr => XS.iload X50.here hx rfl (hb hby at_140) rfl hr) ?_
        show own_Go p e below _ (T50.setTop (mkF m 142 #[.val (.int x0), .val (.int xa), .val (.int xb), .val (.int xc), .val (.int xd), .val (.int xp), .val (.int (2 : Int32)), .val (.ref b25), .val (.int (0 : Int32)), .val (.int (0 : Int32)), .val (.int (0 : Int32))] [(.int (0 : Int32)), (.int (own_in4 xa xb xc xd xp))]))
        have c52 : (own_in4 xa xb xc xd xp) = (0 : Int32) := by simp [own_in4, hk2, c32, c44, c45, c49]
        refine own_go (fun _ hr => XS.icmpNo X50.here hx rfl (hb hby at_142) rfl (teq c52).2 hr) ?_
        show own_Go p e below _ (T50.setTop (mkF m 145 #[.val (.int x0), .val (.int xa), .val (.int xb), .val (.int xc), .val (.int xd), .val (.int xp), .val (.int (2 : Int32)), .val (.ref b25), .val (.int (0 : Int32)), .val (.int (0 : Int32)), .val (.int (0 : Int32))] []))
        refine own_go (fun _ hr => XS.iconst X50.here hx rfl (hb hby at_145) (XS.goto X50.here hx rfl (pc0 := 146) (pc' := 150) rfl (hb hby at_146) (by decide) (by decide) hr)) ?_
        show own_Go p e below _ (T50.setTop (mkF m 150 #[.val (.int x0), .val (.int xa), .val (.int xb), .val (.int xc), .val (.int xd), .val (.int xp), .val (.int (2 : Int32)), .val (.ref b25), .val (.int (0 : Int32)), .val (.int (0 : Int32)), .val (.int (0 : Int32))] [(.int (1 : Int32))]))
        exact own_retN X50 hx hlk Bd.returns (t := .boolean) (by simp) (hb hby at_150) (by decide) (by decide) ⟨rfl, N50⟩
      refine own_go (fun _ hr => XS.icmpNo X31.here hx rfl (hb hby at_106) rfl (flt c49).2.2.1 hr) ?_
      show own_Go p e below _ (T31.setTop (mkF m 109 #[.val (.int x0), .val (.int xa), .val (.int xb), .val (.int xc), .val (.int xd), .val (.int xp), .val (.int (2 : Int32)), .val (.ref b25), .val (.int (0 : Int32)), .unset, .unset] []))
      refine own_go (fun _ hr => XS.iconst X31.here hx rfl (hb hby at_109) (XS.goto X31.here hx rfl (pc0 := 110) (pc' := 114) rfl (hb hby at_110) (by decide) (by decide) (XS.istore X31.here hx rfl (hb hby at_114) rfl (l' := #[.val (.int x0), .val (.int xa), .val (.int xb), .val (.int xc), .val (.int xd), .val (.int xp), .val (.int (2 : Int32)), .val (.ref b25), .val (.int (0 : Int32)), .val (.int (1 : Int32)), .unset]) rfl (XS.iload X31.here hx rfl (hb hby at_116) rfl (XS.ifNo X31.here hx rfl (hb hby at_118) rfl ((if0 _ _).trans (teq (by decide)).2) (XS.iload X31.here hx rfl (hb hby at_121) rfl (XS.ifNo X31.here hx rfl (hb hby at_123) rfl ((if0 _ _).trans (feq (by decide)).1) (XS.iconst X31.here hx rfl (hb hby at_126) (XS.goto X31.here hx rfl (pc0 := 127) (pc' := 131) rfl (hb hby at_127) (by decide) (by decide) (XS.istore X31.here hx rfl (hb hby at_131) rfl (l' := #[.val (.int x0), .val (.int xa), .val (.int xb), .val (.int xc), .val (.int xd), .val (.int xp), .val (.int (2 : Int32)), .val (.ref b25), .val (.int (0 : Int32)), .val (.int (1 : Int32)), .val (.int (1 : Int32))]) rfl hr)))))))))) ?_
      show own_Go p e below _ (T31.setTop (mkF m 133 #[.val (.int x0), .val (.int xa), .val (.int xb), .val (.int xc), .val (.int xd), .val (.int xp), .val (.int (2 : Int32)), .val (.ref b25), .val (.int (0 : Int32)), .val (.int (1 : Int32)), .val (.int (1 : Int32))] []))
      refine own_go (fun _ hr => XS.aload X31.here hx rfl (hb hby at_133) rfl rfl (XS.iload X31.here hx rfl (hb hby at_135) rfl hr)) ?_
      show own_Go p e below _ (T31.setTop (mkF m 137 #[.val (.int x0), .val (.int xa), .val (.int xb), .val (.int xc), .val (.int xd), .val (.int xp), .val (.int (2 : Int32)), .val (.ref b25), .val (.int (0 : Int32)), .val (.int (1 : Int32)), .val (.int (1 : Int32))] [(.int xp), (.ref b25)]))
      have Z54 := (Nat.le_trans (Nat.le_trans (Nat.le_trans (Nat.le_trans (Nat.le_trans Z0 E25.1) (Nat.le_of_eq W28.size.symm)) (Nat.le_of_eq W29.size.symm)) (Nat.le_of_eq W30.size.symm)) (Nat.le_of_eq W31.size.symm))
      refine own_cs X31 hx hZ hown (hw _ (own_m 2 rfl)) (hw _ (own_m 3 rfl)) (hw _ (own_m 4 rfl)) (hw _ (own_m 5 rfl)) (by decide) (rm := { frames := 0, cells := 0, slots := 0, locals := 0 }) (rm_in4 l Z a0 hw [] b25 k25 xa xb xc xd xp h31 n0 Z54 f31) (by decide) (W := 0) (by decide) (by decide) (by decide) e31 (by rw [hml]; rfl) (argsL := [(.ref b25), (.int xp)]) (lenOf own_pd0 rfl) (rest := []) rfl rfl (Nat.le_of_eq rfl) (hb hby at_137) ?_
      intro _ T53 L53 X53 hQ53
      obtain ⟨rfl, N53q, e53⟩ := hQ53
      have N53 := Fr.app N31 N53q
      show own_Go p e below _ (T53.setTop (mkF m 140 #[.val (.int x0), .val (.int xa), .val (.int xb), .val (.int xc), .val (.int xd), .val (.int xp), .val (.int (2 : Int32)), .val (.ref b25), .val (.int (0 : Int32)), .val (.int (1 : Int32)), .val (.int (1 : Int32))] [(.int (own_in4 xa xb xc xd xp))]))
      refine own_go (fun _ hr => XS.iload X53.here hx rfl (hb hby at_140) rfl hr) ?_
      show own_Go p e below _ (T53.setTop (mkF m 142 #[.val (.int x0), .val (.int xa), .val (.int xb), .val (.int xc), .val (.int xd), .val (.int xp), .val (.int (2 : Int32)), .val (.ref b25), .val (.int (0 : Int32)), .val (.int (1 : Int32)), .val (.int (1 : Int32))] [(.int (1 : Int32)), (.int (own_in4 xa xb xc xd xp))]))
      have c55 : (own_in4 xa xb xc xd xp) = (1 : Int32) := by simp [own_in4, hk2, c32, c44, c45, c49]
      refine own_go (fun _ hr => XS.icmpNo X53.here hx rfl (hb hby at_142) rfl (teq c55).2 hr) ?_
      show own_Go p e below _ (T53.setTop (mkF m 145 #[.val (.int x0), .val (.int xa), .val (.int xb), .val (.int xc), .val (.int xd), .val (.int xp), .val (.int (2 : Int32)), .val (.ref b25), .val (.int (0 : Int32)), .val (.int (1 : Int32)), .val (.int (1 : Int32))] []))
      refine own_go (fun _ hr => XS.iconst X53.here hx rfl (hb hby at_145) (XS.goto X53.here hx rfl (pc0 := 146) (pc' := 150) rfl (hb hby at_146) (by decide) (by decide) hr)) ?_
      show own_Go p e below _ (T53.setTop (mkF m 150 #[.val (.int x0), .val (.int xa), .val (.int xb), .val (.int xc), .val (.int xd), .val (.int xp), .val (.int (2 : Int32)), .val (.ref b25), .val (.int (0 : Int32)), .val (.int (1 : Int32)), .val (.int (1 : Int32))] [(.int (1 : Int32))]))
      exact own_retN X53 hx hlk Bd.returns (t := .boolean) (by simp) (hb hby at_150) (by decide) (by decide) ⟨rfl, N53⟩
    refine own_go (fun _ hr => XS.icmpNo X31.here hx rfl (hb hby at_80) rfl (flt c44).2.2.1 hr) ?_
    show own_Go p e below _ (T31.setTop (mkF m 83 #[.val (.int x0), .val (.int xa), .val (.int xb), .val (.int xc), .val (.int xd), .val (.int xp), .val (.int (2 : Int32)), .val (.ref b25), .unset, .unset, .unset] []))
    refine own_go (fun _ hr => XS.iconst X31.here hx rfl (hb hby at_83) (XS.goto X31.here hx rfl (pc0 := 84) (pc' := 88) rfl (hb hby at_84) (by decide) (by decide) (XS.istore X31.here hx rfl (hb hby at_88) rfl (l' := #[.val (.int x0), .val (.int xa), .val (.int xb), .val (.int xc), .val (.int xd), .val (.int xp), .val (.int (2 : Int32)), .val (.ref b25), .val (.int (1 : Int32)), .unset, .unset]) rfl (XS.iload X31.here hx rfl (hb hby at_90) rfl (XS.iconst X31.here hx rfl (hb hby at_92) (XS.icmpNo X31.here hx rfl (hb hby at_93) rfl (flt (by decide)).1 (XS.iloadN X31.here hx rfl (hb hby at_96) rfl (XS.iload X31.here hx rfl (hb hby at_97) rfl hr)))))))) ?_
    show own_Go p e below _ (T31.setTop (mkF m 99 #[.val (.int x0), .val (.int xa), .val (.int xb), .val (.int xc), .val (.int xd), .val (.int xp), .val (.int (2 : Int32)), .val (.ref b25), .val (.int (1 : Int32)), .unset, .unset] [(.int xp), (.int xc)]))
    by_cases c56 : xp < xc
    · refine own_go (fun _ hr => XS.icmpYes X31.here hx rfl (pc0 := 99) (pc' := 113) rfl (hb hby at_99) rfl (tlt c56).2.2.1 (by decide) (by decide) hr) ?_
      show own_Go p e below _ (T31.setTop (mkF m 113 #[.val (.int x0), .val (.int xa), .val (.int xb), .val (.int xc), .val (.int xd), .val (.int xp), .val (.int (2 : Int32)), .val (.ref b25), .val (.int (1 : Int32)), .unset, .unset] []))
      refine own_go (fun _ hr => XS.iconst X31.here hx rfl (hb hby at_113) (XS.istore X31.here hx rfl (hb hby at_114) rfl (l' := #[.val (.int x0), .val (.int xa), .val (.int xb), .val (.int xc), .val (.int xd), .val (.int xp), .val (.int (2 : Int32)), .val (.ref b25), .val (.int (1 : Int32)), .val (.int (0 : Int32)), .unset]) rfl (XS.iload X31.here hx rfl (hb hby at_116) rfl (XS.ifYes X31.here hx rfl (pc0 := 118) (pc' := 126) rfl (hb hby at_118) rfl ((if0 _ _).trans (feq (by decide)).2) (by decide) (by decide) (XS.iconst X31.here hx rfl (hb hby at_126) (XS.goto X31.here hx rfl (pc0 := 127) (pc' := 131) rfl (hb hby at_127) (by decide) (by decide) (XS.istore X31.here hx rfl (hb hby at_131) rfl (l' := #[.val (.int x0), .val (.int xa), .val (.int xb), .val (.int xc), .val (.int xd), .val (.int xp), .val (.int (2 : Int32)), .val (.ref b25), .val (.int (1 : Int32)), .val (.int (0 : Int32)), .val (.int (1 : Int32))]) rfl (XS.aload X31.here hx rfl (hb hby at_133) rfl rfl (XS.iload X31.here hx rfl (hb hby at_135) rfl hr))))))))) ?_
      show own_Go p e below _ (T31.setTop (mkF m 137 #[.val (.int x0), .val (.int xa), .val (.int xb), .val (.int xc), .val (.int xd), .val (.int xp), .val (.int (2 : Int32)), .val (.ref b25), .val (.int (1 : Int32)), .val (.int (0 : Int32)), .val (.int (1 : Int32))] [(.int xp), (.ref b25)]))
      have Z58 := (Nat.le_trans (Nat.le_trans (Nat.le_trans (Nat.le_trans (Nat.le_trans Z0 E25.1) (Nat.le_of_eq W28.size.symm)) (Nat.le_of_eq W29.size.symm)) (Nat.le_of_eq W30.size.symm)) (Nat.le_of_eq W31.size.symm))
      refine own_cs X31 hx hZ hown (hw _ (own_m 2 rfl)) (hw _ (own_m 3 rfl)) (hw _ (own_m 4 rfl)) (hw _ (own_m 5 rfl)) (by decide) (rm := { frames := 0, cells := 0, slots := 0, locals := 0 }) (rm_in4 l Z a0 hw [] b25 k25 xa xb xc xd xp h31 n0 Z58 f31) (by decide) (W := 0) (by decide) (by decide) (by decide) e31 (by rw [hml]; rfl) (argsL := [(.ref b25), (.int xp)]) (lenOf own_pd0 rfl) (rest := []) rfl rfl (Nat.le_of_eq rfl) (hb hby at_137) ?_
      intro _ T57 L57 X57 hQ57
      obtain ⟨rfl, N57q, e57⟩ := hQ57
      have N57 := Fr.app N31 N57q
      show own_Go p e below _ (T57.setTop (mkF m 140 #[.val (.int x0), .val (.int xa), .val (.int xb), .val (.int xc), .val (.int xd), .val (.int xp), .val (.int (2 : Int32)), .val (.ref b25), .val (.int (1 : Int32)), .val (.int (0 : Int32)), .val (.int (1 : Int32))] [(.int (own_in4 xa xb xc xd xp))]))
      refine own_go (fun _ hr => XS.iload X57.here hx rfl (hb hby at_140) rfl hr) ?_
      show own_Go p e below _ (T57.setTop (mkF m 142 #[.val (.int x0), .val (.int xa), .val (.int xb), .val (.int xc), .val (.int xd), .val (.int xp), .val (.int (2 : Int32)), .val (.ref b25), .val (.int (1 : Int32)), .val (.int (0 : Int32)), .val (.int (1 : Int32))] [(.int (1 : Int32)), (.int (own_in4 xa xb xc xd xp))]))
      have c59 : (own_in4 xa xb xc xd xp) = (1 : Int32) := by simp [own_in4, hk2, c32, c44, c56]
      refine own_go (fun _ hr => XS.icmpNo X57.here hx rfl (hb hby at_142) rfl (teq c59).2 hr) ?_
      show own_Go p e below _ (T57.setTop (mkF m 145 #[.val (.int x0), .val (.int xa), .val (.int xb), .val (.int xc), .val (.int xd), .val (.int xp), .val (.int (2 : Int32)), .val (.ref b25), .val (.int (1 : Int32)), .val (.int (0 : Int32)), .val (.int (1 : Int32))] []))
      refine own_go (fun _ hr => XS.iconst X57.here hx rfl (hb hby at_145) (XS.goto X57.here hx rfl (pc0 := 146) (pc' := 150) rfl (hb hby at_146) (by decide) (by decide) hr)) ?_
      show own_Go p e below _ (T57.setTop (mkF m 150 #[.val (.int x0), .val (.int xa), .val (.int xb), .val (.int xc), .val (.int xd), .val (.int xp), .val (.int (2 : Int32)), .val (.ref b25), .val (.int (1 : Int32)), .val (.int (0 : Int32)), .val (.int (1 : Int32))] [(.int (1 : Int32))]))
      exact own_retN X57 hx hlk Bd.returns (t := .boolean) (by simp) (hb hby at_150) (by decide) (by decide) ⟨rfl, N57⟩
    refine own_go (fun _ hr => XS.icmpNo X31.here hx rfl (hb hby at_99) rfl (flt c56).2.2.1 hr) ?_
    show own_Go p e below _ (T31.setTop (mkF m 102 #[.val (.int x0), .val (.int xa), .val (.int xb), .val (.int xc), .val (.int xd), .val (.int xp), .val (.int (2 : Int32)), .val (.ref b25), .val (.int (1 : Int32)), .unset, .unset] []))
    refine own_go (fun _ hr => XS.iload X31.here hx rfl (hb hby at_102) rfl (XS.iload X31.here hx rfl (hb hby at_104) rfl hr)) ?_
    show own_Go p e below _ (T31.setTop (mkF m 106 #[.val (.int x0), .val (.int xa), .val (.int xb), .val (.int xc), .val (.int xd), .val (.int xp), .val (.int (2 : Int32)), .val (.ref b25), .val (.int (1 : Int32)), .unset, .unset] [(.int xd), (.int xp)]))
    by_cases c60 : xd < xp
    · refine own_go (fun _ hr => XS.icmpYes X31.here hx rfl (pc0 := 106) (pc' := 113) rfl (hb hby at_106) rfl (tlt c60).2.2.1 (by decide) (by decide) hr) ?_
      show own_Go p e below _ (T31.setTop (mkF m 113 #[.val (.int x0), .val (.int xa), .val (.int xb), .val (.int xc), .val (.int xd), .val (.int xp), .val (.int (2 : Int32)), .val (.ref b25), .val (.int (1 : Int32)), .unset, .unset] []))
      refine own_go (fun _ hr => XS.iconst X31.here hx rfl (hb hby at_113) (XS.istore X31.here hx rfl (hb hby at_114) rfl (l' := #[.val (.int x0), .val (.int xa), .val (.int xb), .val (.int xc), .val (.int xd), .val (.int xp), .val (.int (2 : Int32)), .val (.ref b25), .val (.int (1 : Int32)), .val (.int (0 : Int32)), .unset]) rfl (XS.iload X31.here hx rfl (hb hby at_116) rfl (XS.ifYes X31.here hx rfl (pc0 := 118) (pc' := 126) rfl (hb hby at_118) rfl ((if0 _ _).trans (feq (by decide)).2) (by decide) (by decide) (XS.iconst X31.here hx rfl (hb hby at_126) (XS.goto X31.here hx rfl (pc0 := 127) (pc' := 131) rfl (hb hby at_127) (by decide) (by decide) (XS.istore X31.here hx rfl (hb hby at_131) rfl (l' := #[.val (.int x0), .val (.int xa), .val (.int xb), .val (.int xc), .val (.int xd), .val (.int xp), .val (.int (2 : Int32)), .val (.ref b25), .val (.int (1 : Int32)), .val (.int (0 : Int32)), .val (.int (1 : Int32))]) rfl (XS.aload X31.here hx rfl (hb hby at_133) rfl rfl (XS.iload X31.here hx rfl (hb hby at_135) rfl hr))))))))) ?_
      show own_Go p e below _ (T31.setTop (mkF m 137 #[.val (.int x0), .val (.int xa), .val (.int xb), .val (.int xc), .val (.int xd), .val (.int xp), .val (.int (2 : Int32)), .val (.ref b25), .val (.int (1 : Int32)), .val (.int (0 : Int32)), .val (.int (1 : Int32))] [(.int xp), (.ref b25)]))
      have Z62 := (Nat.le_trans (Nat.le_trans (Nat.le_trans (Nat.le_trans (Nat.le_trans Z0 E25.1) (Nat.le_of_eq W28.size.symm)) (Nat.le_of_eq W29.size.symm)) (Nat.le_of_eq W30.size.symm)) (Nat.le_of_eq W31.size.symm))
      refine own_cs X31 hx hZ hown (hw _ (own_m 2 rfl)) (hw _ (own_m 3 rfl)) (hw _ (own_m 4 rfl)) (hw _ (own_m 5 rfl)) (by decide) (rm := { frames := 0, cells := 0, slots := 0, locals := 0 }) (rm_in4 l Z a0 hw [] b25 k25 xa xb xc xd xp h31 n0 Z62 f31) (by decide) (W := 0) (by decide) (by decide) (by decide) e31 (by rw [hml]; rfl) (argsL := [(.ref b25), (.int xp)]) (lenOf own_pd0 rfl) (rest := []) rfl rfl (Nat.le_of_eq rfl) (hb hby at_137) ?_
      intro _ T61 L61 X61 hQ61
      obtain ⟨rfl, N61q, e61⟩ := hQ61
      have N61 := Fr.app N31 N61q
      show own_Go p e below _ (T61.setTop (mkF m 140 #[.val (.int x0), .val (.int xa), .val (.int xb), .val (.int xc), .val (.int xd), .val (.int xp), .val (.int (2 : Int32)), .val (.ref b25), .val (.int (1 : Int32)), .val (.int (0 : Int32)), .val (.int (1 : Int32))] [(.int (own_in4 xa xb xc xd xp))]))
      refine own_go (fun _ hr => XS.iload X61.here hx rfl (hb hby at_140) rfl hr) ?_
      show own_Go p e below _ (T61.setTop (mkF m 142 #[.val (.int x0), .val (.int xa), .val (.int xb), .val (.int xc), .val (.int xd), .val (.int xp), .val (.int (2 : Int32)), .val (.ref b25), .val (.int (1 : Int32)), .val (.int (0 : Int32)), .val (.int (1 : Int32))] [(.int (1 : Int32)), (.int (own_in4 xa xb xc xd xp))]))
      have c63 : (own_in4 xa xb xc xd xp) = (1 : Int32) := by simp [own_in4, hk2, c32, c44, c56, c60]
      refine own_go (fun _ hr => XS.icmpNo X61.here hx rfl (hb hby at_142) rfl (teq c63).2 hr) ?_
      show own_Go p e below _ (T61.setTop (mkF m 145 #[.val (.int x0), .val (.int xa), .val (.int xb), .val (.int xc), .val (.int xd), .val (.int xp), .val (.int (2 : Int32)), .val (.ref b25), .val (.int (1 : Int32)), .val (.int (0 : Int32)), .val (.int (1 : Int32))] []))
      refine own_go (fun _ hr => XS.iconst X61.here hx rfl (hb hby at_145) (XS.goto X61.here hx rfl (pc0 := 146) (pc' := 150) rfl (hb hby at_146) (by decide) (by decide) hr)) ?_
      show own_Go p e below _ (T61.setTop (mkF m 150 #[.val (.int x0), .val (.int xa), .val (.int xb), .val (.int xc), .val (.int xd), .val (.int xp), .val (.int (2 : Int32)), .val (.ref b25), .val (.int (1 : Int32)), .val (.int (0 : Int32)), .val (.int (1 : Int32))] [(.int (1 : Int32))]))
      exact own_retN X61 hx hlk Bd.returns (t := .boolean) (by simp) (hb hby at_150) (by decide) (by decide) ⟨rfl, N61⟩
    refine own_go (fun _ hr => XS.icmpNo X31.here hx rfl (hb hby at_106) rfl (flt c60).2.2.1 hr) ?_
    show own_Go p e below _ (T31.setTop (mkF m 109 #[.val (.int x0), .val (.int xa), .val (.int xb), .val (.int xc), .val (.int xd), .val (.int xp), .val (.int (2 : Int32)), .val (.ref b25), .val (.int (1 : Int32)), .unset, .unset] []))
    refine own_go (fun _ hr => XS.iconst X31.here hx rfl (hb hby at_109) (XS.goto X31.here hx rfl (pc0 := 110) (pc' := 114) rfl (hb hby at_110) (by decide) (by decide) (XS.istore X31.here hx rfl (hb hby at_114) rfl (l' := #[.val (.int x0), .val (.int xa), .val (.int xb), .val (.int xc), .val (.int xd), .val (.int xp), .val (.int (2 : Int32)), .val (.ref b25), .val (.int (1 : Int32)), .val (.int (1 : Int32)), .unset]) rfl (XS.iload X31.here hx rfl (hb hby at_116) rfl (XS.ifYes X31.here hx rfl (pc0 := 118) (pc' := 126) rfl (hb hby at_118) rfl ((if0 _ _).trans (feq (by decide)).2) (by decide) (by decide) (XS.iconst X31.here hx rfl (hb hby at_126) (XS.goto X31.here hx rfl (pc0 := 127) (pc' := 131) rfl (hb hby at_127) (by decide) (by decide) (XS.istore X31.here hx rfl (hb hby at_131) rfl (l' := #[.val (.int x0), .val (.int xa), .val (.int xb), .val (.int xc), .val (.int xd), .val (.int xp), .val (.int (2 : Int32)), .val (.ref b25), .val (.int (1 : Int32)), .val (.int (1 : Int32)), .val (.int (1 : Int32))]) rfl (XS.aload X31.here hx rfl (hb hby at_133) rfl rfl (XS.iload X31.here hx rfl (hb hby at_135) rfl hr)))))))))) ?_
    show own_Go p e below _ (T31.setTop (mkF m 137 #[.val (.int x0), .val (.int xa), .val (.int xb), .val (.int xc), .val (.int xd), .val (.int xp), .val (.int (2 : Int32)), .val (.ref b25), .val (.int (1 : Int32)), .val (.int (1 : Int32)), .val (.int (1 : Int32))] [(.int xp), (.ref b25)]))
    have Z65 := (Nat.le_trans (Nat.le_trans (Nat.le_trans (Nat.le_trans (Nat.le_trans Z0 E25.1) (Nat.le_of_eq W28.size.symm)) (Nat.le_of_eq W29.size.symm)) (Nat.le_of_eq W30.size.symm)) (Nat.le_of_eq W31.size.symm))
    refine own_cs X31 hx hZ hown (hw _ (own_m 2 rfl)) (hw _ (own_m 3 rfl)) (hw _ (own_m 4 rfl)) (hw _ (own_m 5 rfl)) (by decide) (rm := { frames := 0, cells := 0, slots := 0, locals := 0 }) (rm_in4 l Z a0 hw [] b25 k25 xa xb xc xd xp h31 n0 Z65 f31) (by decide) (W := 0) (by decide) (by decide) (by decide) e31 (by rw [hml]; rfl) (argsL := [(.ref b25), (.int xp)]) (lenOf own_pd0 rfl) (rest := []) rfl rfl (Nat.le_of_eq rfl) (hb hby at_137) ?_
    intro _ T64 L64 X64 hQ64
    obtain ⟨rfl, N64q, e64⟩ := hQ64
    have N64 := Fr.app N31 N64q
    show own_Go p e below _ (T64.setTop (mkF m 140 #[.val (.int x0), .val (.int xa), .val (.int xb), .val (.int xc), .val (.int xd), .val (.int xp), .val (.int (2 : Int32)), .val (.ref b25), .val (.int (1 : Int32)), .val (.int (1 : Int32)), .val (.int (1 : Int32))] [(.int (own_in4 xa xb xc xd xp))]))
    refine own_go (fun _ hr => XS.iload X64.here hx rfl (hb hby at_140) rfl hr) ?_
    show own_Go p e below _ (T64.setTop (mkF m 142 #[.val (.int x0), .val (.int xa), .val (.int xb), .val (.int xc), .val (.int xd), .val (.int xp), .val (.int (2 : Int32)), .val (.ref b25), .val (.int (1 : Int32)), .val (.int (1 : Int32)), .val (.int (1 : Int32))] [(.int (1 : Int32)), (.int (own_in4 xa xb xc xd xp))]))
    have c66 : (own_in4 xa xb xc xd xp) = (1 : Int32) := by simp [own_in4, hk2, c32, c44, c56, c60]
    refine own_go (fun _ hr => XS.icmpNo X64.here hx rfl (hb hby at_142) rfl (teq c66).2 hr) ?_
    show own_Go p e below _ (T64.setTop (mkF m 145 #[.val (.int x0), .val (.int xa), .val (.int xb), .val (.int xc), .val (.int xd), .val (.int xp), .val (.int (2 : Int32)), .val (.ref b25), .val (.int (1 : Int32)), .val (.int (1 : Int32)), .val (.int (1 : Int32))] []))
    refine own_go (fun _ hr => XS.iconst X64.here hx rfl (hb hby at_145) (XS.goto X64.here hx rfl (pc0 := 146) (pc' := 150) rfl (hb hby at_146) (by decide) (by decide) hr)) ?_
    show own_Go p e below _ (T64.setTop (mkF m 150 #[.val (.int x0), .val (.int xa), .val (.int xb), .val (.int xc), .val (.int xd), .val (.int xp), .val (.int (2 : Int32)), .val (.ref b25), .val (.int (1 : Int32)), .val (.int (1 : Int32)), .val (.int (1 : Int32))] [(.int (1 : Int32))]))
    exact own_retN X64 hx hlk Bd.returns (t := .boolean) (by simp) (hb hby at_150) (by decide) (by decide) ⟨rfl, N64⟩
set_option maxRecDepth 65536 in
set_option maxHeartbeats 40000000 in
theorem comes_1 {Post : Tables → Env → Array Value → State → Outcome → State → Prop} (hpost : ∀ tb e args s v u, (limb_1_1.after args s (.returned v) u = true ∧ limb_1_2.after args s (.returned v) u = true ∧ True) → FrameEnd s (.returned v) u (Jvm.fieldLocs frame_1_writes args s ++ Jvm.arrayLocs frame_1_arrays args s ++ Jvm.staticLocs frame_1_statics s) 16 128 → Post tb e args s (.returned v) u) :
    ArmFor flags0 classFile x code maxLocals ret World_1 tables_1 room_1 Calls_1 rest_1 Pre_1 Post := by
  intro l hfl _ _ p e ha hc hk s m args below hf hA hF happ hP
  obtain ⟨hcalls, hrest, hpre⟩ := hP
  obtain ⟨-, -, -, hnamed, -, -, -, hat⟩ := (Spec.applies_iff hf).mp happ
  obtain ⟨hg, hn⟩ := and_e (Cond.before_iff.mp (show (Jvm.Cond.and given_1 narrow_1).before args s = true from hpre))
  obtain ⟨g1, g2⟩ := and_e hg
  obtain ⟨g3, g4⟩ := and_e g2
  obtain ⟨g5, g6⟩ := and_e g4
  obtain ⟨g7, g8⟩ := and_e g6
  obtain ⟨g9, g10⟩ := and_e g8
  obtain ⟨g11, g12⟩ := and_e g10
  obtain ⟨w0, w1, w2, w3, w4, w5, rfl⟩ : ∃ w0 w1 w2 w3 w4 w5 : Value, args = #[w0, w1, w2, w3, w4, w5] := by
    have hs : args.size = 6 := by simpa [Cond.value, given_1] using g1
    obtain ⟨L⟩ := args
    match L, hs with
    | [w0, w1, w2, w3, w4, w5], _ => exact ⟨w0, w1, w2, w3, w4, w5, rfl⟩
  have hw := fun d (hd : d ∈ tables_1) => atoms_spec (ws := Jvm.Cond.code x code maxLocals ret :: tables_1) hat d (List.mem_cons_of_mem _ hd)
  have hfit : Fit s := fun {y c} hc i hi => by
    obtain ⟨ha, rfl⟩ := Array.getElem?_eq_some_iff.mp hc
    have q := List.all_eq_true.mp ((Array.all_eq_true_iff_forall_mem.mp hF) _ (Array.getElem_mem ha)) i (List.mem_range.mpr hi)
    simpa [Array.getElem?_eq_getElem hi] using q
  obtain ⟨i0, ei0⟩ := is_v g3
  obtain rfl : w0 = (.int i0) := Option.some.inj ei0
  obtain ⟨i1, ei1⟩ := is_v g5
  obtain rfl : w1 = (.int i1) := Option.some.inj ei1
  obtain ⟨i2, ei2⟩ := is_v g7
  obtain rfl : w2 = (.int i2) := Option.some.inj ei2
  obtain ⟨i3, ei3⟩ := is_v g9
  obtain rfl : w3 = (.int i3) := Option.some.inj ei3
  obtain ⟨i4, ei4⟩ := is_v g11
  obtain rfl : w4 = (.int i4) := Option.some.inj ei4
  obtain ⟨i5, ei5⟩ := is_v g12
  obtain rfl : w5 = (.int i5) := Option.some.inj ei5
  obtain ⟨n, o, h1, h2, h3, _, L, rfl, ⟨rfl, N⟩, hq⟩ := rm_law l s _ hw tables_1 i0 i1 i2 i3 i4 i5 s.heap s.heap.size (Nat.le_refl _)  p e ha hc hk s m _ below hf ((Spec.applies_iff_loose hf).mp happ).1 ⟨rfl, State.Warmed39.refl s, rfl⟩ trivial
  refine ⟨n, _, h1, h2, h3, hpost _ _ _ _ _ _ ⟨Cond.after_iff.mpr rfl, Cond.after_iff.mpr (eq_i res_at (Term.int_eval (1)) rfl), trivial⟩ ⟨hq.1, hq.2.1, (hq.2.2.sift fun y hy => Or.inr (N y hy)).mono (by decide) (by decide)⟩⟩
theorem main_1_1 : Claimed_1_1 := comes_1 fun _ _ _ _ _ _ h hF => ⟨h.1, hF⟩
theorem main_1_2 : Claimed_1_2 := comes_1 fun _ _ _ _ _ _ h hF => ⟨h.2.1, hF⟩
end Jvm.Pilot.@@N@@
namespace Jvm.Pilot.@@N@@
open Jvm Jvm.ClassFile Sem Op Lib Jvm.Free Jvm.Stand Jvm.Pilot.@@N@@.Jvm.D
/-! MADE BY PROGRAM (witnessworld.py) out of the Statement's table words and the real class files: 12 classes; the members and pool entries that the words name. The judged class is class 1, her method 1. -/
namespace start1
open Jvm.ClassFile
def u (s : String) : CpInfo := .utf8 (stringToUtf16 s)
/-- a pool by its gaps: so many unusable entries, then the entry; so many at the end -/
def gap : Nat → List CpInfo → List CpInfo
  | 0, r => r
  | n + 1, r => .unusable :: gap n r
def poolList (es : List (Nat × CpInfo)) (last : Nat) : List CpInfo := es.foldr (fun e r => gap e.1 (e.2 :: r)) (gap last [])
def pool (es : List (Nat × CpInfo)) (last : Nat) : Array CpInfo := ⟨poolList es last⟩
def fileOf (pool : Array CpInfo) (this : Nat) (attrs : Array Attribute := #[]) (ms : Array MethodInfo := #[]) (fl : Nat := 33) (sup : Nat := 0) (ifs : Array Nat := #[]) (fds : Array FieldInfo := #[]) : ClassFile where
  minorVersion := 0
  majorVersion := 65
  constantPool := pool
  accessFlags := fl
  thisClass := this
  superClass := sup
  interfaces := ifs
  fields := fds
  methods := ms
  attributes := attrs
def plain (name : String) (sup : Option ClassId) : Class where
  name := name
  kind := .ordinary
  loader := none
  accessFlags := 33
  super := sup
  interfaces := #[]
  cf := none
  fields := #[]
  methods := #[]
  instanceTypes := #[]
  staticTypes := #[]
  resolved := #[]
  callSites := []
  init := .initialized
  statics := none
  mirror := none

def pool0 : Array CpInfo := pool [(5, u "<init>"), (0, u "()V"), (1, .class_ 10), (1, u "java/lang/Object")] 113

def k0m0 : Method := { name := "<init>", desc := "()V", sig := { parameters := [], returnType := none }, accessFlags := 1, code := none }
/-- java/lang/Object -/
def k0 : Class := { plain "java/lang/Object" none with
  accessFlags := 33
  interfaces := #[]
  cf := some (fileOf pool0 8 #[] #[{ accessFlags := 1, nameIndex := 5, descriptorIndex := 6, attributes := #[] }] 33 0 #[] #[])
  fields := #[]
  methods := #[k0m0]
  instanceTypes := #[]
  staticTypes := #[]
  resolved := Array.replicate 124 none
  statics := none }

def pool1 : Array CpInfo := pool [(2, .class_ 4), (1, u "java/lang/Object"), (0, u "<init>"), (0, u "()V"), (0, .integer 2147483647), (0, .methodref 9 10), (0, .class_ 11), (0, .nameAndType 12 13), (0, u "com/example/fitzroy/fitzroy/XmlVersion"), (0, u "inRanges"), (0, u "([II)Z"), (0, .class_ 15), (0, u "com/example/fitzroy/fitzroy/XmlVersionInRangesPinLaw"), (2, u "law"), (0, u "(IIIIII)Z")] 5

def k1m0 : Method := { name := "<init>", desc := "()V", sig := { parameters := [], returnType := none }, accessFlags := 1, code := none }
def k1c1 : Code := { maxStack := 4, maxLocals := 11, code := code, exceptionTable := #[], attributes := #[] }
def k1m1 : Method := { name := "law", desc := "(IIIIII)Z", sig := { parameters := [.int, .int, .int, .int, .int, .int], returnType := some .boolean }, accessFlags := 9, code := some k1c1 }
/-- com/example/fitzroy/fitzroy/XmlVersionInRangesPinLaw -/
def k1 : Class := { plain "com/example/fitzroy/fitzroy/XmlVersionInRangesPinLaw" (some 0) with
  accessFlags := 49
  interfaces := #[]
  cf := some (fileOf pool1 14 #[] #[{ accessFlags := 1, nameIndex := 5, descriptorIndex := 6, attributes := #[] }, { accessFlags := 9, nameIndex := 18, descriptorIndex := 19, attributes := #[] }] 49 2 #[] #[])
  fields := #[]
  methods := #[k1m0, k1m1]
  instanceTypes := #[]
  staticTypes := #[]
  resolved := Array.replicate 25 none
  statics := none }

def pool2 : Array CpInfo := pool [(1, .class_ 2), (0, u "java/lang/constant/Constable"), (0, .class_ 4), (0, u "java/lang/Object")] 6

/-- java/lang/constant/Constable -/
def k2 : Class := { plain "java/lang/constant/Constable" (some 0) with
  accessFlags := 1537
  interfaces := #[]
  cf := some (fileOf pool2 1 #[] #[] 1537 3 #[] #[])
  fields := #[]
  methods := #[]
  instanceTypes := #[]
  staticTypes := #[]
  resolved := Array.replicate 11 none
  statics := none }

def pool3 : Array CpInfo := pool [(1, .class_ 2), (0, u "java/lang/Comparable"), (0, .class_ 4), (0, u "java/lang/Object")] 7

/-- java/lang/Comparable -/
def k3 : Class := { plain "java/lang/Comparable" (some 0) with
  accessFlags := 1537
  interfaces := #[]
  cf := some (fileOf pool3 1 #[] #[] 1537 3 #[] #[])
  fields := #[]
  methods := #[]
  instanceTypes := #[]
  staticTypes := #[]
  resolved := Array.replicate 12 none
  statics := none }

def pool4 : Array CpInfo := pool [(1, .class_ 2), (0, u "java/io/Serializable"), (0, .class_ 4), (0, u "java/lang/Object")] 2

/-- java/io/Serializable -/
def k4 : Class := { plain "java/io/Serializable" (some 0) with
  accessFlags := 1537
  interfaces := #[]
  cf := some (fileOf pool4 1 #[] #[] 1537 3 #[] #[])
  fields := #[]
  methods := #[]
  instanceTypes := #[]
  staticTypes := #[]
  resolved := Array.replicate 7 none
  statics := none }

def pool5 : Array CpInfo := pool [(2, .class_ 4), (1, u "java/lang/Enum"), (0, u "name"), (0, u "Ljava/lang/String;"), (2, u "ordinal"), (0, u "I"), (1, .class_ 14), (1, u "java/lang/Object"), (4, u "hash"), (86, .class_ 108), (1, u "java/lang/Enum$EnumDesc"), (2, .class_ 112), (0, u "java/lang/constant/Constable"), (0, .class_ 114), (0, u "java/lang/Comparable"), (0, .class_ 116), (0, u "java/io/Serializable")] 87

/-- java/lang/Enum -/
def k5 : Class := { plain "java/lang/Enum" (some 0) with
  accessFlags := 1057
  interfaces := #[2, 3, 4]
  cf := some (fileOf pool5 2 #[.nestMembers #[106]] #[] 1057 12 #[111, 113, 115] #[{ accessFlags := 18, nameIndex := 5, descriptorIndex := 6, attributes := #[] }, { accessFlags := 18, nameIndex := 9, descriptorIndex := 10, attributes := #[] }, { accessFlags := 2, nameIndex := 19, descriptorIndex := 10, attributes := #[] }])
  fields := #[{ name := "name", type := (.object "java/lang/String"), accessFlags := 18, slot := 0, constantValue := 0 }, { name := "ordinal", type := .int, accessFlags := 18, slot := 1, constantValue := 0 }, { name := "hash", type := .int, accessFlags := 2, slot := 2, constantValue := 0 }]
  methods := #[]
  instanceTypes := #[(.object "java/lang/String"), .int, .int]
  staticTypes := #[]
  resolved := Array.replicate 204 none
  statics := none }

def pool6 : Array CpInfo := pool [(1, .class_ 2), (0, u "com/example/fitzroy/fitzroy/XmlVersion"), (2, u "V1_0"), (0, u "Lcom/example/fitzroy/fitzroy/XmlVersion;"), (2, u "V1_1"), (2, u "$VALUES"), (0, u "[Lcom/example/fitzroy/fitzroy/XmlVersion;"), (6, .class_ 22), (1, u "java/lang/Enum"), (8, u "held"), (0, u "[I"), (2, u "referable"), (2, u "inRanges"), (0, u "([II)Z"), (18, u "NEXT_LINE"), (0, u "C"), (2, u "LINE_SEPARATOR")] 18

def k6c0 : Code := { maxStack := 4, maxLocals := 3, code := prog_20_method_9_code, exceptionTable := #[], attributes := #[] }
def k6m0 : Method := { name := "inRanges", desc := "([II)Z", sig := { parameters := [(.array .int), .int], returnType := some .boolean }, accessFlags := 8, code := some k6c0 }
/-- com/example/fitzroy/fitzroy/XmlVersion -/
def k6 : Class := { plain "com/example/fitzroy/fitzroy/XmlVersion" (some 5) with
  accessFlags := 16432
  interfaces := #[]
  cf := some (fileOf pool6 1 #[] #[{ accessFlags := 8, nameIndex := 38, descriptorIndex := 39, attributes := #[] }] 16432 20 #[] #[{ accessFlags := 16409, nameIndex := 5, descriptorIndex := 6, attributes := #[] }, { accessFlags := 16409, nameIndex := 9, descriptorIndex := 6, attributes := #[] }, { accessFlags := 26, nameIndex := 58, descriptorIndex := 59, attributes := #[] }, { accessFlags := 26, nameIndex := 62, descriptorIndex := 59, attributes := #[] }, { accessFlags := 18, nameIndex := 31, descriptorIndex := 32, attributes := #[] }, { accessFlags := 18, nameIndex := 35, descriptorIndex := 32, attributes := #[] }, { accessFlags := 4122, nameIndex := 12, descriptorIndex := 13, attributes := #[] }])
  fields := #[{ name := "V1_0", type := (.object "com/example/fitzroy/fitzroy/XmlVersion"), accessFlags := 16409, slot := 0, constantValue := 0 }, { name := "V1_1", type := (.object "com/example/fitzroy/fitzroy/XmlVersion"), accessFlags := 16409, slot := 1, constantValue := 0 }, { name := "NEXT_LINE", type := .char, accessFlags := 26, slot := 2, constantValue := 0 }, { name := "LINE_SEPARATOR", type := .char, accessFlags := 26, slot := 3, constantValue := 0 }, { name := "held", type := (.array .int), accessFlags := 18, slot := 3, constantValue := 0 }, { name := "referable", type := (.array .int), accessFlags := 18, slot := 4, constantValue := 0 }, { name := "$VALUES", type := (.array (.object "com/example/fitzroy/fitzroy/XmlVersion")), accessFlags := 4122, slot := 4, constantValue := 0 }]
  methods := #[k6m0]
  instanceTypes := #[(.object "java/lang/String"), .int, .int, (.array .int), (.array .int)]
  staticTypes := #[(.object "com/example/fitzroy/fitzroy/XmlVersion"), (.object "com/example/fitzroy/fitzroy/XmlVersion"), .char, .char, (.array (.object "com/example/fitzroy/fitzroy/XmlVersion"))]
  resolved := Array.replicate 81 none
  statics := none }

def pool7 : Array CpInfo := pool [(1, u "java/lang/Cloneable"), (0, .class_ 1), (0, u "java/lang/Object"), (0, .class_ 3)] 3

/-- java/lang/Cloneable -/
def k7 : Class := { plain "java/lang/Cloneable" (some 0) with
  accessFlags := 1537
  interfaces := #[]
  cf := some (fileOf pool7 2 #[] #[] 1537 4 #[] #[])
  fields := #[]
  methods := #[]
  instanceTypes := #[]
  staticTypes := #[]
  resolved := Array.replicate 8 none
  statics := none }

/-- the primitive byte -/
def k8 : Class := { plain "byte" none with kind := .primitive 'B', accessFlags := 0x411 }
/-- [B -/
def k9 : Class := { plain "[B" (some 0) with kind := .array 8 .byte, interfaces := #[7, 4], accessFlags := 1041 }

/-- the primitive int -/
def k10 : Class := { plain "int" none with kind := .primitive 'I', accessFlags := 0x411 }
/-- [I -/
def k11 : Class := { plain "[I" (some 0) with kind := .array 10 .int, interfaces := #[7, 4], accessFlags := 1041 }

def heap : Heap := #[]
def classes : Array Class := #[k0, k1, k2, k3, k4, k5, k6, k7, k8, k9, k10, k11]
def interned : List (Array UInt16 × Addr) := []
def slotsUsed : Nat := 0
def theMethod : MethodId := ⟨1, 1⟩
def args0 : Array Value := #[.int 5, .int 5, .int 5, .int 5, .int 5, .int 5]
def aboutOver (below : List Frame) : State where
  vm := { classes := classes, interned := interned.toArray }
  heap := heap
  slotsUsed := slotsUsed
  threads := #[{ frames := .invoking theMethod args0 :: below }]
def below0 : List Frame := [.native { method := ⟨0, 0⟩, args := #[] }]
def about1 : State := aboutOver below0
def p0 : Program := .bare "" "" ""
def e0 : Env := launch0.env 0 0 0
theorem w_frames : about1.frames = Frame.invoking theMethod args0 :: below0 := rfl
set_option maxRecDepth 65536 in
theorem w_args : argsFit about1.vm theMethod args0 = true := by decide +kernel
set_option maxRecDepth 65536 in
theorem w_heap : heapFits about1 = true := by decide +kernel
set_option maxRecDepth 65536 in
theorem w_runnable : about1.curStatus? = some .runnable := by decide +kernel
set_option maxRecDepth 65536 in
theorem w_alone : about1.alone = true := by decide +kernel
set_option maxRecDepth 65536 in
theorem w_named : about1.methodNamed? x = some theMethod := by decide +kernel
set_option maxRecDepth 65536 in
theorem w_hears : about1.hears theMethod below0 = true := by decide +kernel
set_option maxRecDepth 65536 in
theorem w_ripe : about1.ripe theMethod args0 below0 = true := by decide +kernel
theorem w_running : about1.status = .running := rfl
set_option maxRecDepth 65536 in
theorem w_room : about1.hasRoom e0.platform room_1 = true :=
  launch0.hasRoom_least _ room_1 (by decide +kernel) (by decide +kernel) (by decide +kernel) (by decide +kernel) (by decide +kernel) (by decide +kernel)
theorem allAtoms_all (ts : List Jvm.Cond) (a : Array Jvm.Value) (st : Jvm.State) : (allAtoms ts).before a st = ts.all (fun c => c.before a st) := by
  induction ts with
  | nil => rfl
  | cons c t ih =>
    show (Jvm.Cond.and c (allAtoms t)).before a st = _
    rw [Jvm.Cond.before_and, ih, List.all_cons]
def words1 : List Jvm.Cond := Jvm.Cond.code x code maxLocals ret :: tables_1
/-- a 'code' word, met by the world's own term for the bytes: nothing is compared byte by byte -/
theorem code_word {y : MethodName} {bytes : ByteArray} {mx : Nat} {rt : Option FieldType} {a : Array Value} {s : State} {m : MethodId} {meth : Method} {c : Code} (h1 : s.methodNamed? y = some m) (h2 : s.vm.method? m = some meth) (h3 : meth.code = some c) (h4 : c.code = bytes)
    (h5 : (c.maxLocals == mx && c.exceptionTable.isEmpty && decide (c.maxStack ≤ mostOperands) && decide (meth.sig.returnType = rt) && !meth.locks && decide (parseMethodDescriptor y.desc = some meth.sig)) = true) : (Jvm.Cond.code y bytes mx rt).before a s = true := by
  simp only [Bool.and_eq_true, beq_iff_eq, Bool.not_eq_true', decide_eq_true_eq] at h5
  obtain ⟨⟨⟨⟨⟨g1, g2⟩, g3⟩, g4⟩, g5⟩, g6⟩ := h5
  simp [Cond.before, Cond.holds, Cond.value, h1, h2, h3, h4, g1, g2, g3, g4, g5, g6]
def isCode : Jvm.Cond → Bool
  | .code _ _ _ _ => true
  | _ => false
theorem all_split {L : List Jvm.Cond} {P : Jvm.Cond → Bool} (h1 : L.all (fun c => isCode c || P c) = true) (h2 : ∀ c ∈ L.filter isCode, P c = true) : L.all P = true := by
  refine List.all_eq_true.mpr fun c hc => ?_
  have h := List.all_eq_true.mp h1 c hc
  rcases Bool.eq_false_or_eq_true (isCode c) with hi | hi
  · exact h2 c (List.mem_filter.mpr ⟨hc, hi⟩)
  · simpa [hi] using h
set_option maxRecDepth 65536 in
theorem w_c0 : (Jvm.Cond.code x code maxLocals ret).before args0 about1 = true := code_word (m := ⟨1, 1⟩) (meth := k1m1) (c := k1c1) (by decide +kernel) rfl rfl rfl (by decide +kernel)
set_option maxRecDepth 65536 in
theorem w_c1 : (Jvm.Cond.code ({ cls := "com/example/fitzroy/fitzroy/XmlVersion", name := "inRanges", desc := "([II)Z" } : Jvm.MethodName) prog_20_method_9_code (3 : Nat) (Option.some Jvm.ClassFile.FieldType.boolean)).before args0 about1 = true := code_word (m := ⟨6, 0⟩) (meth := k6m0) (c := k6c0) (by decide +kernel) rfl rfl rfl (by decide +kernel)
def codes1 : List Jvm.Cond := [Jvm.Cond.code x code maxLocals ret, Jvm.Cond.code ({ cls := "com/example/fitzroy/fitzroy/XmlVersion", name := "inRanges", desc := "([II)Z" } : Jvm.MethodName) prog_20_method_9_code (3 : Nat) (Option.some Jvm.ClassFile.FieldType.boolean)]
set_option maxRecDepth 65536 in
theorem codes_eq : words1.filter isCode = codes1 := rfl
theorem w_codes : ∀ c ∈ words1.filter isCode, c.before args0 about1 = true := by
  rw [codes_eq]
  intro c hc
  simp only [codes1, List.mem_cons, List.not_mem_nil, or_false] at hc
  rcases hc with rfl | rfl
  · exact w_c0
  · exact w_c1
set_option maxRecDepth 65536 in
theorem w_t1 : words1.all (fun c => isCode c || c.before args0 about1) = true := by decide +kernel
theorem w_tables : (allAtoms (Jvm.Cond.code x code maxLocals ret :: tables_1)).before args0 about1 = true := by
  rw [allAtoms_all]
  show words1.all (fun c => c.before args0 about1) = true
  refine all_split ?_ w_codes
  rw [w_t1]
set_option maxRecDepth 65536 in
theorem w_case : (Jvm.Cond.and given_1 narrow_1).before args0 about1 = true := by decide +kernel
theorem w_applies : (headSpec (Jvm.Cond.code x code maxLocals ret :: tables_1) room_1).applies x e0.platform about1 = true :=
  (Spec.applies_iff w_frames).mpr ⟨w_running, w_runnable, w_alone, w_named, w_hears, w_ripe, w_room, w_tables⟩
theorem atStart : AtStart classFile x code maxLocals ret World_1 tables_1 room_1 Calls_1 rest_1 Pre_1 launch0 p0 e0 about1 theMethod args0 below0 :=
  ⟨lists_1, trivial, launch0.admits_env _ _ _, launch0.least_env, fairChoices_fair.cas, fairChoices_fair.clock, w_frames, w_args, w_heap, w_applies, trivial, trivial, w_case⟩
end start1
theorem witness_1 : WitnessClaimed_1 := ⟨start1.p0, start1.e0, start1.about1, start1.theMethod, start1.args0, start1.below0, start1.atStart⟩
end Jvm.Pilot.@@N@@
