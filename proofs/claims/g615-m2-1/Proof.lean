import JvmDerived
import JvmDerived.Pilot.@@N@@Statement
import JvmDerived.Pilot.@@N@@Code
set_option linter.unusedVariables false
set_option linter.unusedSimpArgs false
namespace Jvm.RoadKit
open Sem ClassFile Op Lib Jvm.Stand Jvm.Free Jvm.LawKit
section Own
variable {p : Program} {l : Launch} {e : Env} {R : Room} {s : State} {m : MethodId} {args : Array Value} {below : List Frame} {meth : Method} {c : Code} {T : State} {locs : List Loc} {cells slots : Nat}
/-- from S the run comes to an end of which K holds -/
def own_Go (p : Program) (e : Env) (below : List Frame) (K : State → Outcome → Prop) (S : State) : Prop := ∃ t o, Steps p.tables e below S t ∧ t.status = .running ∧ Ended t below o ∧ K t o
def own_K (s : State) (Q : Option Value → Heap → List Loc → Prop) (k n : Nat) (t : State) (o : Outcome) : Prop := ∃ v L, o = .returned v ∧ Q v t.heap L ∧ FrameEnd s o t L k n
theorem own_go {K : State → Outcome → Prop} {S S' : State} (h : ∀ t, Steps p.tables e below S' t → Steps p.tables e below S t) (g : own_Go p e below K S') : own_Go p e below K S := by
  obtain ⟨t, o, h1, h2⟩ := g; exact ⟨t, o, h t h1, h2⟩
theorem own_via {K : State → Outcome → Prop} {S S' : State} (h : Steps p.tables e below S S') (g : own_Go p e below K S') : own_Go p e below K S := by
  obtain ⟨t, o, h1, h2⟩ := g; exact ⟨t, o, h.trans h1, h2⟩
variable {Q : Option Value → Heap → List Loc → Prop} {k n : Nat}
theorem own_end (X : Stand p l e R s m args below meth c T locs cells slots) {v : Option Value} (hlk : meth.locks = false) (hv : meth.sig.returnType = none → v = none) (hk : cells ≤ k) (hn : slots ≤ n) (hQ : Q v T.heap locs) {S : State}
    (st : ∀ fs, (∀ (f : JFrame) (acts : List Action), f.method = m → f.locked = none → f.entered = [] → (doReturn e (T.setTop f) acts v).1 = T.setFrames fs) → Steps p.tables e below S (T.setFrames fs)) : own_Go p e below (own_K s Q k n) S := by
  obtain ⟨fs, hr, hrun, hended, hW, hsame⟩ := X.leave hv hlk
  exact ⟨_, _, st fs hr, hrun, hended, v, locs, rfl, hQ, ⟨_, rfl⟩, hW, hsame.mono hk hn⟩
theorem own_ret0 (X : Stand p l e R s m args below meth c T locs cells slots) (hx : p.tables.exec = Jvm.exec) (hlk : meth.locks = false) (hret : meth.sig.returnType = none) {pc : Nat} {Ls : Array Slot} (hd : decode c.code pc = .ok (.return_, 1)) (hk : cells ≤ k) (hn : slots ≤ n) (hQ : Q none T.heap locs) :
    own_Go p e below (own_K s Q k n) (T.setTop (mkF m pc Ls [])) := own_end X hlk (fun _ => rfl) hk hn hQ fun _ hr => X.returnOut hx hret hd hr
theorem own_retN (X : Stand p l e R s m args below meth c T locs cells slots) (hx : p.tables.exec = Jvm.exec) (hlk : meth.locks = false) {t : FieldType} (hret : meth.sig.returnType = some t) (ht : t = .boolean ∨ t = .byte ∨ t = .char ∨ t = .short) {pc : Nat} {Ls : Array Slot} {z : Int32} {rest : List Value} (hd : decode c.code pc = .ok (.ireturn, 1)) (hk : cells ≤ k) (hn : slots ≤ n) (hQ : Q (some (.int (nar t z))) T.heap locs) :
    own_Go p e below (own_K s Q k n) (T.setTop (mkF m pc Ls (.int z :: rest))) := own_end X hlk (fun h => by rw [hret] at h; cases h) hk hn hQ fun _ hr => retN X hx hret ht hd hr
theorem own_retI (X : Stand p l e R s m args below meth c T locs cells slots) (hx : p.tables.exec = Jvm.exec) (hlk : meth.locks = false) (hret : meth.sig.returnType = some .int) {pc : Nat} {Ls : Array Slot} {z : Int32} {rest : List Value} (hd : decode c.code pc = .ok (.ireturn, 1)) (hk : cells ≤ k) (hn : slots ≤ n) (hQ : Q (some (.int z)) T.heap locs) :
    own_Go p e below (own_K s Q k n) (T.setTop (mkF m pc Ls (.int z :: rest))) := own_end X hlk (fun h => by rw [hret] at h; cases h) hk hn hQ fun _ hr => retOut X hx hret rfl (Or.inl ⟨rfl, Or.inl rfl, z, rfl⟩) hd hr
theorem own_retJ (X : Stand p l e R s m args below meth c T locs cells slots) (hx : p.tables.exec = Jvm.exec) (hlk : meth.locks = false) (hret : meth.sig.returnType = some .long) {pc : Nat} {Ls : Array Slot} {z : Int64} {rest : List Value} (hd : decode c.code pc = .ok (.lreturn, 1)) (hk : cells ≤ k) (hn : slots ≤ n) (hQ : Q (some (.long z)) T.heap locs) :
    own_Go p e below (own_K s Q k n) (T.setTop (mkF m pc Ls (.long z :: rest))) := own_end X hlk (fun h => by rw [hret] at h; cases h) hk hn hQ fun _ hr => retOut X hx hret rfl (Or.inr (Or.inl ⟨rfl, rfl, z, rfl⟩)) hd hr
theorem own_retR (X : Stand p l e R s m args below meth c T locs cells slots) (hx : p.tables.exec = Jvm.exec) (hlk : meth.locks = false) {t : FieldType} (hret : meth.sig.returnType = some t) (ht : t.isReference = true) {pc : Nat} {Ls : Array Slot} {w : Value} {rest : List Value} (hw : w.isRef = true) (hd : decode c.code pc = .ok (.areturn, 1)) (hk : cells ≤ k) (hn : slots ≤ n) (hQ : Q (some w) T.heap locs) :
    own_Go p e below (own_K s Q k n) (T.setTop (mkF m pc Ls (w :: rest))) := own_end X hlk (fun h => by rw [hret] at h; cases h) hk hn hQ fun _ hr => retOut X hx hret (by cases t <;> first | rfl | cases ht) (Or.inr (Or.inr (Or.inr (Or.inr ⟨rfl, ht, hw⟩)))) hd hr
section Arrays
variable {Z : State} {h : Heap} {a : Addr} {k : ClassId} {ty : FieldType} {z : Int32} {vs : List Value} {dv : Value}
theorem own_iaload {g : JFrame} {target : State} (X : Stand p l e R s m args below meth c T locs cells slots) (hx : p.tables.exec = Jvm.exec) (hZ : Z.Warmed39 s.vm) (eT : T.heap = h) (F : Arv Z h a k .int z vs dv) (j : Int32) (v : Value) (hj : ¬ j < 0 ∧ j < z) (hat : vs.getD j.toNatClampNeg dv = v) (hg : g.method = m) {rest : List Value} (hs : g.stack = .int j :: .ref a :: rest) (hd : decode c.code g.pc = .ok (.iaload, 1))
    (hr : Steps p.tables e below (T.setTop { g with pc := g.pc + 1, stack := v :: rest }) target) : Steps p.tables e below (T.setTop g) target := by
  obtain ⟨cl, A, q, S, N, H, G⟩ := F
  have hi := inb_of S hj
  exact X.iaload hx (j := j) (v := v) (by rw [eT]; exact A.1) (State.isArrayOf_alike hZ.alike A.2.1) A.2.2 hi (Has.at H hi hat) hg hs hd _ hr
theorem own_caload {g : JFrame} {target : State} (X : Stand p l e R s m args below meth c T locs cells slots) (hx : p.tables.exec = Jvm.exec) (hZ : Z.Warmed39 s.vm) (eT : T.heap = h) (F : Arv Z h a k .char z vs dv) (j : Int32) (v : Value) (hj : ¬ j < 0 ∧ j < z) (hat : vs.getD j.toNatClampNeg dv = v) (hg : g.method = m) {rest : List Value} (hs : g.stack = .int j :: .ref a :: rest) (hd : decode c.code g.pc = .ok (.caload, 1))
    (hr : Steps p.tables e below (T.setTop { g with pc := g.pc + 1, stack := v :: rest }) target) : Steps p.tables e below (T.setTop g) target := by
  obtain ⟨cl, A, q, S, N, H, G⟩ := F
  have hi := inb_of S hj
  exact X.caload hx (j := j) (v := v) (by rw [eT]; exact A.1) (State.isArrayOf_alike hZ.alike A.2.1) A.2.2 hi (Has.at H hi hat) hg hs hd _ hr
theorem own_saload {g : JFrame} {target : State} (X : Stand p l e R s m args below meth c T locs cells slots) (hx : p.tables.exec = Jvm.exec) (hZ : Z.Warmed39 s.vm) (eT : T.heap = h) (F : Arv Z h a k .short z vs dv) (j : Int32) (v : Value) (hj : ¬ j < 0 ∧ j < z) (hat : vs.getD j.toNatClampNeg dv = v) (hg : g.method = m) {rest : List Value} (hs : g.stack = .int j :: .ref a :: rest) (hd : decode c.code g.pc = .ok (.saload, 1))
    (hr : Steps p.tables e below (T.setTop { g with pc := g.pc + 1, stack := v :: rest }) target) : Steps p.tables e below (T.setTop g) target := by
  obtain ⟨cl, A, q, S, N, H, G⟩ := F
  have hi := inb_of S hj
  exact X.saload hx (j := j) (v := v) (by rw [eT]; exact A.1) (State.isArrayOf_alike hZ.alike A.2.1) A.2.2 hi (Has.at H hi hat) hg hs hd _ hr
theorem own_baload {g : JFrame} {target : State} (X : Stand p l e R s m args below meth c T locs cells slots) (hx : p.tables.exec = Jvm.exec) (hZ : Z.Warmed39 s.vm) (eT : T.heap = h) (F : Arv Z h a k .byte z vs dv) (j : Int32) (v : Value) (hj : ¬ j < 0 ∧ j < z) (hat : vs.getD j.toNatClampNeg dv = v) (hg : g.method = m) {rest : List Value} (hs : g.stack = .int j :: .ref a :: rest) (hd : decode c.code g.pc = .ok (.baload, 1))
    (hr : Steps p.tables e below (T.setTop { g with pc := g.pc + 1, stack := v :: rest }) target) : Steps p.tables e below (T.setTop g) target := by
  obtain ⟨cl, A, q, S, N, H, G⟩ := F
  have hi := inb_of S hj
  exact X.baloadBytes hx (j := j) (v := v) (by rw [eT]; exact A.1) (State.isArrayOf_alike hZ.alike A.2.1) A.2.2 hi (Has.at H hi hat) hg hs hd _ hr
theorem own_zaload {g : JFrame} {target : State} (X : Stand p l e R s m args below meth c T locs cells slots) (hx : p.tables.exec = Jvm.exec) (hZ : Z.Warmed39 s.vm) (eT : T.heap = h) (F : Arv Z h a k .boolean z vs dv) (j : Int32) (v : Value) (hj : ¬ j < 0 ∧ j < z) (hat : vs.getD j.toNatClampNeg dv = v) (hg : g.method = m) {rest : List Value} (hs : g.stack = .int j :: .ref a :: rest) (hd : decode c.code g.pc = .ok (.baload, 1))
    (hr : Steps p.tables e below (T.setTop { g with pc := g.pc + 1, stack := v :: rest }) target) : Steps p.tables e below (T.setTop g) target := by
  obtain ⟨cl, A, q, S, N, H, G⟩ := F
  have hi := inb_of S hj
  exact X.baloadBooleans hx (j := j) (v := v) (by rw [eT]; exact A.1) (State.isArrayOf_alike hZ.alike A.2.1) A.2.2 hi (Has.at H hi hat) hg hs hd _ hr
theorem own_laload {g : JFrame} {target : State} (X : Stand p l e R s m args below meth c T locs cells slots) (hx : p.tables.exec = Jvm.exec) (hZ : Z.Warmed39 s.vm) (eT : T.heap = h) (F : Arv Z h a k .long z vs dv) (j : Int32) (v : Value) (hj : ¬ j < 0 ∧ j < z) (hat : vs.getD j.toNatClampNeg dv = v) (hg : g.method = m) {rest : List Value} (hs : g.stack = .int j :: .ref a :: rest) (hd : decode c.code g.pc = .ok (.laload, 1))
    (hr : Steps p.tables e below (T.setTop { g with pc := g.pc + 1, stack := v :: rest }) target) : Steps p.tables e below (T.setTop g) target := by
  obtain ⟨cl, A, q, S, N, H, G⟩ := F
  have hi := inb_of S hj
  exact X.laload hx (j := j) (v := v) (by rw [eT]; exact A.1) (State.isArrayOf_alike hZ.alike A.2.1) A.2.2 hi (Has.at H hi hat) hg hs hd _ hr
theorem own_aaload {g : JFrame} {target : State} (X : Stand p l e R s m args below meth c T locs cells slots) (hx : p.tables.exec = Jvm.exec) (hZ : Z.Warmed39 s.vm) (eT : T.heap = h) (F : Arv Z h a k ty z vs dv) (j : Int32) (v : Value) (hj : ¬ j < 0 ∧ j < z) (hat : vs.getD j.toNatClampNeg dv = v) (hty : ty.isReference = true) (hg : g.method = m) {rest : List Value} (hs : g.stack = .int j :: .ref a :: rest) (hd : decode c.code g.pc = .ok (.aaload, 1))
    (hr : Steps p.tables e below (T.setTop { g with pc := g.pc + 1, stack := v :: rest }) target) : Steps p.tables e below (T.setTop g) target := by
  obtain ⟨cl, A, q, S, N, H, G⟩ := F
  have hi := inb_of S hj
  exact X.aaload hx (j := j) (v := v) (by rw [eT]; exact A.1) (State.isArrayOf_alike hZ.alike A.2.1) hty A.2.2 hi (Has.at H hi hat) hg hs hd _ hr
theorem own_alen {g : JFrame} {target : State} (X : Stand p l e R s m args below meth c T locs cells slots) (hx : p.tables.exec = Jvm.exec) (hZ : Z.Warmed39 s.vm) (eT : T.heap = h) (F : Arv Z h a k ty z vs dv) (hg : g.method = m) {rest : List Value} (hs : g.stack = .ref a :: rest) (hd : decode c.code g.pc = .ok (.arraylength, 1))
    (hr : Steps p.tables e below (T.setTop { g with pc := g.pc + 1, stack := .int z :: rest }) target) : Steps p.tables e below (T.setTop g) target := by
  obtain ⟨cl, A, q, S, N, -, -⟩ := F
  exact X.arraylength hx (by rw [eT]; exact A.1) (State.isArrayOf_alike hZ.alike A.2.1) hg hs hd _ (by rw [len_of S N]; exact hr)
theorem own_stI {K : State → Outcome → Prop} {n0 : Nat} (X : Stand p l e R s m args below meth c T locs cells slots) (hx : p.tables.exec = Jvm.exec) (hZ : Z.Warmed39 s.vm) (eT : T.heap = h) (F : Arv Z h a k .int z vs dv) (j : Int32) (x : Int32) (i : Nat) (hj : ¬ j < 0 ∧ j < z) (hi : j.toNatClampNeg = i) (hl : i < vs.length) (vs' : List Value) (hv : vs.set i (.int x) = vs') (N : Fr n0 locs) (ge : n0 ≤ a) {pc : Nat} {Ls : Array Slot} {rest : List Value} (hd : decode c.code pc = .ok (.iastore, 1))
    (kk : ∀ (T' : State) (h' : Heap) (L' : List Loc), Stand p l e R s m args below meth c T' L' cells slots → T'.heap = h' → Wr h h' a i (.int x) → Fr n0 L' → Arv Z h' a k .int z vs' dv → own_Go p e below K (T'.setTop (mkF m (pc + 1) Ls rest))) : own_Go p e below K (T.setTop (mkF m pc Ls (.int x :: .int j :: .ref a :: rest))) := by
  obtain ⟨cl, A, q, S, M, H, G⟩ := F
  subst hi; subst hv
  obtain ⟨T', h', X', e', W, st⟩ := stI X hx hZ eT A (j := j) (inb_of S hj) (g := mkF m pc Ls (.int x :: .int j :: .ref a :: rest)) rfl rfl hd
  exact own_go st (kk T' h' _ X' e' W (Fr.snoc X' N ge) (Arv.set A q S M H G rfl W _ rfl hl))
theorem own_stJ {K : State → Outcome → Prop} {n0 : Nat} (X : Stand p l e R s m args below meth c T locs cells slots) (hx : p.tables.exec = Jvm.exec) (hZ : Z.Warmed39 s.vm) (eT : T.heap = h) (F : Arv Z h a k .long z vs dv) (j : Int32) (x : Int64) (i : Nat) (hj : ¬ j < 0 ∧ j < z) (hi : j.toNatClampNeg = i) (hl : i < vs.length) (vs' : List Value) (hv : vs.set i (.long x) = vs') (N : Fr n0 locs) (ge : n0 ≤ a) {pc : Nat} {Ls : Array Slot} {rest : List Value} (hd : decode c.code pc = .ok (.lastore, 1))
    (kk : ∀ (T' : State) (h' : Heap) (L' : List Loc), Stand p l e R s m args below meth c T' L' cells slots → T'.heap = h' → Wr h h' a i (.long x) → Fr n0 L' → Arv Z h' a k .long z vs' dv → own_Go p e below K (T'.setTop (mkF m (pc + 1) Ls rest))) : own_Go p e below K (T.setTop (mkF m pc Ls (.long x :: .int j :: .ref a :: rest))) := by
  obtain ⟨cl, A, q, S, M, H, G⟩ := F
  subst hi; subst hv
  obtain ⟨T', h', X', e', W, st⟩ := stJ X hx hZ eT A (j := j) (inb_of S hj) (g := mkF m pc Ls (.long x :: .int j :: .ref a :: rest)) rfl rfl hd
  exact own_go st (kk T' h' _ X' e' W (Fr.snoc X' N ge) (Arv.set A q S M H G rfl W _ rfl hl))
theorem own_stB {K : State → Outcome → Prop} {n0 : Nat} (X : Stand p l e R s m args below meth c T locs cells slots) (hx : p.tables.exec = Jvm.exec) (hZ : Z.Warmed39 s.vm) (eT : T.heap = h) (F : Arv Z h a k .byte z vs dv) (j : Int32) (x x' : Int32) (i : Nat) (hj : ¬ j < 0 ∧ j < z) (hi : j.toNatClampNeg = i) (hl : i < vs.length) (hn : nar .byte x = x') (vs' : List Value) (hv : vs.set i (.int x') = vs') (N : Fr n0 locs) (ge : n0 ≤ a) {pc : Nat} {Ls : Array Slot} {rest : List Value} (hd : decode c.code pc = .ok (.bastore, 1))
    (kk : ∀ (T' : State) (h' : Heap) (L' : List Loc), Stand p l e R s m args below meth c T' L' cells slots → T'.heap = h' → Wr h h' a i (.int x') → Fr n0 L' → Arv Z h' a k .byte z vs' dv → own_Go p e below K (T'.setTop (mkF m (pc + 1) Ls rest))) : own_Go p e below K (T.setTop (mkF m pc Ls (.int x :: .int j :: .ref a :: rest))) := by
  obtain ⟨cl, A, q, S, M, H, G⟩ := F
  subst hn; subst hi; subst hv
  obtain ⟨T', h', X', e', W, st⟩ := stB X hx hZ eT A (j := j) (inb_of S hj) (g := mkF m pc Ls (.int x :: .int j :: .ref a :: rest)) rfl rfl hd
  exact own_go st (kk T' h' _ X' e' W (Fr.snoc X' N ge) (Arv.set A q S M H G (fits_nar_byte _) W _ rfl hl))
theorem own_stZ {K : State → Outcome → Prop} {n0 : Nat} (X : Stand p l e R s m args below meth c T locs cells slots) (hx : p.tables.exec = Jvm.exec) (hZ : Z.Warmed39 s.vm) (eT : T.heap = h) (F : Arv Z h a k .boolean z vs dv) (j : Int32) (x x' : Int32) (i : Nat) (hj : ¬ j < 0 ∧ j < z) (hi : j.toNatClampNeg = i) (hl : i < vs.length) (hn : nar .boolean x = x') (vs' : List Value) (hv : vs.set i (.int x') = vs') (N : Fr n0 locs) (ge : n0 ≤ a) {pc : Nat} {Ls : Array Slot} {rest : List Value} (hd : decode c.code pc = .ok (.bastore, 1))
    (kk : ∀ (T' : State) (h' : Heap) (L' : List Loc), Stand p l e R s m args below meth c T' L' cells slots → T'.heap = h' → Wr h h' a i (.int x') → Fr n0 L' → Arv Z h' a k .boolean z vs' dv → own_Go p e below K (T'.setTop (mkF m (pc + 1) Ls rest))) : own_Go p e below K (T.setTop (mkF m pc Ls (.int x :: .int j :: .ref a :: rest))) := by
  obtain ⟨cl, A, q, S, M, H, G⟩ := F
  subst hn; subst hi; subst hv
  obtain ⟨T', h', X', e', W, st⟩ := stZ X hx hZ eT A (j := j) (inb_of S hj) (g := mkF m pc Ls (.int x :: .int j :: .ref a :: rest)) rfl rfl hd
  exact own_go st (kk T' h' _ X' e' W (Fr.snoc X' N ge) (Arv.set A q S M H G (fits_nar_bool _) W _ rfl hl))
theorem own_stC {K : State → Outcome → Prop} {n0 : Nat} (X : Stand p l e R s m args below meth c T locs cells slots) (hx : p.tables.exec = Jvm.exec) (hZ : Z.Warmed39 s.vm) (eT : T.heap = h) (F : Arv Z h a k .char z vs dv) (j : Int32) (x x' : Int32) (i : Nat) (hj : ¬ j < 0 ∧ j < z) (hi : j.toNatClampNeg = i) (hl : i < vs.length) (hn : nar .char x = x') (vs' : List Value) (hv : vs.set i (.int x') = vs') (N : Fr n0 locs) (ge : n0 ≤ a) {pc : Nat} {Ls : Array Slot} {rest : List Value} (hd : decode c.code pc = .ok (.castore, 1))
    (kk : ∀ (T' : State) (h' : Heap) (L' : List Loc), Stand p l e R s m args below meth c T' L' cells slots → T'.heap = h' → Wr h h' a i (.int x') → Fr n0 L' → Arv Z h' a k .char z vs' dv → own_Go p e below K (T'.setTop (mkF m (pc + 1) Ls rest))) : own_Go p e below K (T.setTop (mkF m pc Ls (.int x :: .int j :: .ref a :: rest))) := by
  obtain ⟨cl, A, q, S, M, H, G⟩ := F
  subst hn; subst hi; subst hv
  obtain ⟨T', h', X', e', W, st⟩ := stC X hx hZ eT A (j := j) (inb_of S hj) (g := mkF m pc Ls (.int x :: .int j :: .ref a :: rest)) rfl rfl hd
  exact own_go st (kk T' h' _ X' e' W (Fr.snoc X' N ge) (Arv.set A q S M H G (fits_nar_char _) W _ rfl hl))
theorem own_stS {K : State → Outcome → Prop} {n0 : Nat} (X : Stand p l e R s m args below meth c T locs cells slots) (hx : p.tables.exec = Jvm.exec) (hZ : Z.Warmed39 s.vm) (eT : T.heap = h) (F : Arv Z h a k .short z vs dv) (j : Int32) (x x' : Int32) (i : Nat) (hj : ¬ j < 0 ∧ j < z) (hi : j.toNatClampNeg = i) (hl : i < vs.length) (hn : nar .short x = x') (vs' : List Value) (hv : vs.set i (.int x') = vs') (N : Fr n0 locs) (ge : n0 ≤ a) {pc : Nat} {Ls : Array Slot} {rest : List Value} (hd : decode c.code pc = .ok (.sastore, 1))
    (kk : ∀ (T' : State) (h' : Heap) (L' : List Loc), Stand p l e R s m args below meth c T' L' cells slots → T'.heap = h' → Wr h h' a i (.int x') → Fr n0 L' → Arv Z h' a k .short z vs' dv → own_Go p e below K (T'.setTop (mkF m (pc + 1) Ls rest))) : own_Go p e below K (T.setTop (mkF m pc Ls (.int x :: .int j :: .ref a :: rest))) := by
  obtain ⟨cl, A, q, S, M, H, G⟩ := F
  subst hn; subst hi; subst hv
  obtain ⟨T', h', X', e', W, st⟩ := stS X hx hZ eT A (j := j) (inb_of S hj) (g := mkF m pc Ls (.int x :: .int j :: .ref a :: rest)) rfl rfl hd
  exact own_go st (kk T' h' _ X' e' W (Fr.snoc X' N ge) (Arv.set A q S M H G (fits_nar_short _) W _ rfl hl))
theorem own_stR {K : State → Outcome → Prop} {n0 : Nat} (X : Stand p l e R s m args below meth c T locs cells slots) (hx : p.tables.exec = Jvm.exec) (hZ : Z.Warmed39 s.vm) (eT : T.heap = h) (F : Arv Z h a k ty z vs dv) (j : Int32) (v : Value) (i : Nat) (hj : ¬ j < 0 ∧ j < z) (hi : j.toNatClampNeg = i) (hl : i < vs.length) (sto : ∀ cl : Cell, Arr Z h a cl ty → cl.cls = k → Sto Z h a v) (hty : ty.isReference = true) (vs' : List Value) (hv : vs.set i v = vs') (N : Fr n0 locs) (ge : n0 ≤ a) {pc : Nat} {Ls : Array Slot} {rest : List Value} (hd : decode c.code pc = .ok (.aastore, 1))
    (kk : ∀ (T' : State) (h' : Heap) (L' : List Loc), Stand p l e R s m args below meth c T' L' cells slots → T'.heap = h' → Wr h h' a i v → Fr n0 L' → Arv Z h' a k ty z vs' dv → own_Go p e below K (T'.setTop (mkF m (pc + 1) Ls rest))) : own_Go p e below K (T.setTop (mkF m pc Ls (v :: .int j :: .ref a :: rest))) := by
  obtain ⟨cl, A, q, S, M, H, G⟩ := F
  subst hi; subst hv
  have so := sto cl A q
  obtain ⟨T', h', X', e', W, st⟩ := stR X hx hZ eT A (j := j) (inb_of S hj) hty so (g := mkF m pc Ls (v :: .int j :: .ref a :: rest)) rfl rfl hd
  have fv : fits ty v = true := by
    rcases so with rfl | ⟨_, _, _, _, _, _, _, y, _, _, _, _, rfl, _⟩ <;> cases ty <;> first | rfl | cases hty
  exact own_go st (kk T' h' _ X' e' W (Fr.snoc X' N ge) (Arv.set A q S M H G fv W _ rfl hl))
end Arrays
section Calls
variable {own : String} {index : Nat} {y z : MethodName} {bytes : ByteArray} {maxL : Nat} {ret : Option FieldType} {rm : Room} {W : Nat} {as' : Array Value} {Z : State} {a0 : Array Value} {h : Heap} {K : State → Outcome → Prop} {pc : Nat} {Ls : Array Slot} {argsL rest stk : List Value} {C : String} {b : Addr}
theorem own_cs (X : Stand p l e R s m args below meth c T locs cells slots) (hx : p.tables.exec = Jvm.exec) (hZ : Z.Warmed39 s.vm) (hown : s.vm.findClass own = some m.cls) (w1 : (Cond.methodLink own index y).before a0 Z = true) (w2 : (Cond.static y).before a0 Z = true) (w3 : (Cond.initialized y.cls).before a0 Z = true) (w4 : (Cond.code y bytes maxL ret).before a0 Z = true)
    (hy : y.cls ≠ "java/lang/invoke/MethodHandle" ∧ y.cls ≠ "java/lang/invoke/VarHandle")
    (hM : MetFree l y (head1 [Cond.code y bytes maxL ret] rm) (fun a U => a = as' ∧ Z.Warmed39 U.vm ∧ U.heap = h) (fun _ _ _ _ _ => True) (fun _ U o U' => ∃ v L, o = .returned v ∧ Q v U'.heap L ∧ FrameEnd U o U' L rm.cells rm.slots))
    (hf : rm.frames + 1 ≤ R.frames) (hl : W + (maxL + 11) + rm.locals ≤ R.locals) (hc : cells + rm.cells ≤ R.cells) (hs : slots + rm.slots ≤ R.slots) (eT : T.heap = h) (hsz : Ls.size = c.maxLocals) (hlen : ∀ sig, parseMethodDescriptor y.desc = some sig → argsL.length = sig.parameters.length)
    (hst : stk = argsL.reverse ++ rest) (has : argsL.toArray = as') (hW : (rest.map fun v => v.category).sum ≤ W) (hd : decode c.code pc = .ok (.invokestatic index, 3))
    (k : ∀ (v : Option Value) (T' : State) (L : List Loc), Stand p l e R s m args below meth c T' (locs ++ L) (cells + rm.cells) (slots + rm.slots) → Q v T'.heap L → own_Go p e below K (T'.setTop (mkF m (pc + 3) Ls (v.toList ++ rest)))) : own_Go p e below K (T.setTop (mkF m pc Ls stk)) := by
  obtain ⟨v, _, ⟨T', L', k', n'⟩, -, X', ⟨L, hQ, h1, h2, h3⟩, st⟩ := Jvm.LawKit.callS X hx (y := y) hown (mvT hZ w1) (mvT hZ w2) (mvT hZ w3) (mvT hZ w4) hy (backOf (W := W) hM hZ w4 w3 hf hl) (g := mkF m pc Ls stk) rfl hsz (argsL := argsL) (rest := rest) hlen hst (by show 2 * 0 + _ ≤ _; simpa using hW) hd (fun _ _ => ⟨has, eT, hc, hs⟩)
  dsimp only [Pt.U, Pt.locs, Pt.cells, Pt.slots] at X' h1 h2 h3 st hQ
  subst h1 h2 h3
  exact own_go st (k v T' L X' hQ)
theorem own_cp (X : Stand p l e R s m args below meth c T locs cells slots) (hx : p.tables.exec = Jvm.exec) (hZ : Z.Warmed39 s.vm) (hown : s.vm.findClass own = some m.cls) (hy1 : y.name = "<init>") (w1 : (Cond.methodLink own index y).before a0 Z = true) (w2 : (Cond.instanceMethod y).before a0 Z = true) (w3 : (Cond.initialized y.cls).before a0 Z = true) (w4 : (Cond.code y bytes maxL none).before a0 Z = true)
    (hy : y.cls ≠ "java/lang/invoke/MethodHandle" ∧ y.cls ≠ "java/lang/invoke/VarHandle")
    (hM : MetFree l y (head1 [Cond.code y bytes maxL none] rm) (fun a U => a = as' ∧ Z.Warmed39 U.vm ∧ U.heap = h) (fun _ _ _ _ _ => True) (fun _ U o U' => ∃ v L, o = .returned v ∧ Q v U'.heap L ∧ FrameEnd U o U' L rm.cells rm.slots))
    (hf : rm.frames + 1 ≤ R.frames) (hl : W + (maxL + 11) + rm.locals ≤ R.locals) (hc : cells + rm.cells ≤ R.cells) (hs : slots + rm.slots ≤ R.slots) (eT : T.heap = h) (hsz : Ls.size = c.maxLocals) (hlen : ∀ sig, parseMethodDescriptor y.desc = some sig → argsL.length = sig.parameters.length)
    (hst : stk = argsL.reverse ++ .ref b :: rest) (has : (.ref b :: argsL).toArray = as') (hW : (rest.map fun v => v.category).sum ≤ W) (hd : decode c.code pc = .ok (.invokespecial index, 3))
    (k : ∀ (v : Option Value) (T' : State) (L : List Loc), Stand p l e R s m args below meth c T' (locs ++ L) (cells + rm.cells) (slots + rm.slots) → Q v T'.heap L → own_Go p e below K (T'.setTop (mkF m (pc + 3) Ls (v.toList ++ rest)))) : own_Go p e below K (T.setTop (mkF m pc Ls stk)) := by
  obtain ⟨v, _, ⟨T', L', k', n'⟩, -, X', ⟨L, hQ, h1, h2, h3⟩, st⟩ := X.specialBack hx (y := y) hy1 hown (mvT hZ w1) (mvT hZ w2) (mvT hZ w4) hy (backOf (W := W) hM hZ w4 w3 hf hl) (g := mkF m pc Ls stk) rfl hsz (Steps.refl _) (a := b) (argsL := argsL) (rest := rest) hlen hst (by show 2 * 0 + _ ≤ _; simpa using hW) hd (fun _ _ => ⟨has, eT, hc, hs⟩)
  dsimp only [Pt.U, Pt.locs, Pt.cells, Pt.slots] at X' h1 h2 h3 st hQ
  subst h1 h2 h3
  exact own_via st (k v T' L X' hQ)
theorem own_cv (X : Stand p l e R s m args below meth c T locs cells slots) (hx : p.tables.exec = Jvm.exec) (hZ : Z.Warmed39 s.vm) (hown : s.vm.findClass own = some m.cls) (nf : NotFace s y) (w1 : (Cond.methodLink own index y).before a0 Z = true) (w2 : (Cond.declares y).before a0 Z = true) (w5 : (Cond.selects C y z).before a0 Z = true) (w6 : (Cond.instanceMethod z).before a0 Z = true) (w3 : (Cond.initialized z.cls).before a0 Z = true) (w4 : (Cond.code z bytes maxL ret).before a0 Z = true)
    (hy : y.cls ≠ "java/lang/invoke/MethodHandle" ∧ y.cls ≠ "java/lang/invoke/VarHandle") (E : Exa Z h b C)
    (hM : MetFree l z (head1 [Cond.code z bytes maxL ret] rm) (fun a U => a = as' ∧ Z.Warmed39 U.vm ∧ U.heap = h) (fun _ _ _ _ _ => True) (fun _ U o U' => ∃ v L, o = .returned v ∧ Q v U'.heap L ∧ FrameEnd U o U' L rm.cells rm.slots))
    (hf : rm.frames + 1 ≤ R.frames) (hl : W + (maxL + 11) + rm.locals ≤ R.locals) (hc : cells + rm.cells ≤ R.cells) (hs : slots + rm.slots ≤ R.slots) (eT : T.heap = h) (hsz : Ls.size = c.maxLocals) (hlen : ∀ sig, parseMethodDescriptor y.desc = some sig → argsL.length = sig.parameters.length)
    (hst : stk = argsL.reverse ++ .ref b :: rest) (has : (.ref b :: argsL).toArray = as') (hW : (rest.map fun v => v.category).sum ≤ W) (hd : decode c.code pc = .ok (.invokevirtual index, 3))
    (k : ∀ (v : Option Value) (T' : State) (L : List Loc), Stand p l e R s m args below meth c T' (locs ++ L) (cells + rm.cells) (slots + rm.slots) → Q v T'.heap L → own_Go p e below K (T'.setTop (mkF m (pc + 3) Ls (v.toList ++ rest)))) : own_Go p e below K (T.setTop (mkF m pc Ls stk)) := by
  obtain ⟨cq, kq, qa, qb, qc⟩ := isOf hZ eT E
  obtain ⟨v, _, ⟨T', L', k', n'⟩, -, X', ⟨L, hQ, h1, h2, h3⟩, st⟩ := X.virtualBack hx (y := y) (z := z) hown (mvT hZ w1) (mvT hZ w2) nf (mvT hZ w5) (mvT hZ w6) hy (backOf (W := W) hM hZ w4 w3 hf hl) qa qc (g := mkF m pc Ls stk) rfl hsz (Steps.refl _) (argsL := argsL) (rest := rest) hlen hst (by show 2 * 0 + _ ≤ _; simpa using hW) hd (fun _ _ => ⟨has, eT, hc, hs⟩)
  dsimp only [Pt.U, Pt.locs, Pt.cells, Pt.slots] at X' h1 h2 h3 st hQ
  subst h1 h2 h3
  exact own_via st (k v T' L X' hQ)
theorem own_cq (X : Stand p l e R s m args below meth c T locs cells slots) (hx : p.tables.exec = Jvm.exec) (hZ : Z.Warmed39 s.vm) (hown : s.vm.findClass own = some m.cls) (w1 : (Cond.methodLink own index y).before a0 Z = true) (w6 : (Cond.instanceMethod y).before a0 Z = true) (w5 : (Cond.selects y.cls y y).before a0 Z = true) (w7 : (Cond.privateMethod y).before a0 Z = true) (w3 : (Cond.initialized y.cls).before a0 Z = true) (w4 : (Cond.code y bytes maxL ret).before a0 Z = true)
    (hy : y.cls ≠ "java/lang/invoke/MethodHandle" ∧ y.cls ≠ "java/lang/invoke/VarHandle") (E : Exa Z h b C)
    (hM : MetFree l y (head1 [Cond.code y bytes maxL ret] rm) (fun a U => a = as' ∧ Z.Warmed39 U.vm ∧ U.heap = h) (fun _ _ _ _ _ => True) (fun _ U o U' => ∃ v L, o = .returned v ∧ Q v U'.heap L ∧ FrameEnd U o U' L rm.cells rm.slots))
    (hf : rm.frames + 1 ≤ R.frames) (hl : W + (maxL + 11) + rm.locals ≤ R.locals) (hc : cells + rm.cells ≤ R.cells) (hs : slots + rm.slots ≤ R.slots) (eT : T.heap = h) (hsz : Ls.size = c.maxLocals) (hlen : ∀ sig, parseMethodDescriptor y.desc = some sig → argsL.length = sig.parameters.length)
    (hst : stk = argsL.reverse ++ .ref b :: rest) (has : (.ref b :: argsL).toArray = as') (hW : (rest.map fun v => v.category).sum ≤ W) (hd : decode c.code pc = .ok (.invokevirtual index, 3))
    (k : ∀ (v : Option Value) (T' : State) (L : List Loc), Stand p l e R s m args below meth c T' (locs ++ L) (cells + rm.cells) (slots + rm.slots) → Q v T'.heap L → own_Go p e below K (T'.setTop (mkF m (pc + 3) Ls (v.toList ++ rest)))) : own_Go p e below K (T.setTop (mkF m pc Ls stk)) := by
  obtain ⟨cq, q1, q2⟩ := E.cell
  obtain ⟨v, _, ⟨T', L', k', n'⟩, -, X', ⟨L, hQ, h1, h2, h3⟩, st⟩ := X.privateBack hx (y := y) hown (mvT hZ w1) (mvT hZ w6) (mvT hZ w5) (Cond.privateMethod_at (mvP hZ w7 (args := #[]))) (mvT hZ w4) hy (backOf (W := W) hM hZ w4 w3 hf hl) (g := mkF m pc Ls stk) rfl hsz (Steps.refl _) (a := b) (by rw [eT]; exact q1) q2 (argsL := argsL) (rest := rest) hlen hst (by show 2 * 0 + _ ≤ _; simpa using hW) hd (fun _ _ => ⟨has, eT, hc, hs⟩)
  dsimp only [Pt.U, Pt.locs, Pt.cells, Pt.slots] at X' h1 h2 h3 st hQ
  subst h1 h2 h3
  exact own_via st (k v T' L X' hQ)
theorem own_cu {owner : String} (X : Stand p l e R s m args below meth c T locs cells slots) (hx : p.tables.exec = Jvm.exec) (hZ : Z.Warmed39 s.vm) (hown : s.vm.findClass own = some m.cls) (w1 : (Cond.methodLink own index y).before a0 Z = true) (w8 : (Cond.sameMethod y.cls owner y.name y.desc).before a0 Z = true) (w2 : (Cond.declares ⟨owner, y.name, y.desc⟩).before a0 Z = true) (w5 : (Cond.selects C y z).before a0 Z = true) (w6 : (Cond.instanceMethod z).before a0 Z = true) (w3 : (Cond.initialized z.cls).before a0 Z = true) (w4 : (Cond.code z bytes maxL ret).before a0 Z = true)
    (hy : owner ≠ "java/lang/invoke/MethodHandle" ∧ owner ≠ "java/lang/invoke/VarHandle") (E : Exa Z h b C)
    (hM : MetFree l z (head1 [Cond.code z bytes maxL ret] rm) (fun a U => a = as' ∧ Z.Warmed39 U.vm ∧ U.heap = h) (fun _ _ _ _ _ => True) (fun _ U o U' => ∃ v L, o = .returned v ∧ Q v U'.heap L ∧ FrameEnd U o U' L rm.cells rm.slots))
    (hf : rm.frames + 1 ≤ R.frames) (hl : W + (maxL + 11) + rm.locals ≤ R.locals) (hc : cells + rm.cells ≤ R.cells) (hs : slots + rm.slots ≤ R.slots) (eT : T.heap = h) (hsz : Ls.size = c.maxLocals) (hlen : ∀ sig, parseMethodDescriptor y.desc = some sig → argsL.length = sig.parameters.length)
    (hst : stk = argsL.reverse ++ .ref b :: rest) (has : (.ref b :: argsL).toArray = as') (hW : (rest.map fun v => v.category).sum ≤ W) (hd : decode c.code pc = .ok (.invokevirtual index, 3))
    (k : ∀ (v : Option Value) (T' : State) (L : List Loc), Stand p l e R s m args below meth c T' (locs ++ L) (cells + rm.cells) (slots + rm.slots) → Q v T'.heap L → own_Go p e below K (T'.setTop (mkF m (pc + 3) Ls (v.toList ++ rest)))) : own_Go p e below K (T.setTop (mkF m pc Ls stk)) := by
  obtain ⟨cq, kq, qa, qb, qc⟩ := isOf hZ eT E
  obtain ⟨v, _, ⟨T', L', k', n'⟩, -, X', ⟨L, hQ, h1, h2, h3⟩, st⟩ := X.virtualBackUp hx (x := y) (y := z) (owner := owner) hown (mvT hZ w1) (mvT hZ w8) (mvT hZ w2) hy (mvT hZ w5) (mvT hZ w6) (backOf (W := W) hM hZ w4 w3 hf hl) qa qc (g := mkF m pc Ls stk) rfl hsz (Steps.refl _) (argsL := argsL) (rest := rest) hlen hst (by show 2 * 0 + _ ≤ _; simpa using hW) hd (fun _ _ => ⟨has, eT, hc, hs⟩)
  dsimp only [Pt.U, Pt.locs, Pt.cells, Pt.slots] at X' h1 h2 h3 st hQ
  subst h1 h2 h3
  exact own_via st (k v T' L X' hQ)
end Calls
theorem own_fld_eq {Z : State} {h : Heap} {a : Addr} {C n d : String} {v w : Value} (F : Fld Z h a C n d v) (G : Fld Z h a C n d w) : v = w := Classical.byContradiction fun q => Fld.ne F G q rfl
theorem own_nsroot {Z : State} {a0 : Array Value} {O K : String} {n : Nat} (w : (Cond.noSuperclass O).before a0 Z = true) (wk : (Cond.instantiable K n).before a0 Z = true) (hn : O ≠ K) : NS Z O K := by
  obtain ⟨c, k, h1, h2, h3, -, -⟩ := Cond.noSuperclass_spec w
  obtain ⟨t, kt, g1, -⟩ := Cond.instantiable_spec wk
  have ne := ids_ne h1 g1 hn
  refine ⟨c, t, h1, g1, fun fuel => ?_⟩
  cases fuel with
  | zero => rfl
  | succ f => simp [Vm.isSubclassAux, ne, h2, h3]
theorem own_nsno {Z : State} {a0 : Array Value} {C S K : String} {n : Nat} (w : (Cond.superclass C S).before a0 Z = true) (wk : (Cond.instantiable K n).before a0 Z = true) (nn : NS Z C K) (hn : C ≠ K) : ∃ c t, Z.vm.findClass C = some c ∧ Z.vm.findClass K = some t ∧ Z.vm.assignable c t = false := by
  obtain ⟨c, t, h0, g0, n3⟩ := nn
  obtain ⟨p, k, kp, h1, h2, h3, h4, h5, -, h7⟩ := Cond.superclass_spec h0 w
  obtain ⟨t', kt, g1, g2, g5, g6, -⟩ := Cond.instantiable_spec wk
  cases g0.symm.trans g1
  have g7 : kt.isInterface = false := by simp only [Bool.or_eq_false_iff] at g6; exact g6.1
  have ne := ids_ne h0 g0 hn
  refine ⟨c, t, h0, g0, ?_⟩
  show Z.vm.assignableAux (255 + 1) c t = false
  simp [Vm.assignableAux, ne, h2, g2, h5, g5, g7, Vm.isSubclass, n3]
theorem own_ns_exa {Z : State} {h : Heap} {a : Addr} {C : String} (F : Exa Z h a C) : ∀ cell : Cell, h[a]? = some cell → cell.vm.isStatics = false := fun cell hc => by
  obtain ⟨c, _, h1, -, -, h4, -⟩ := F; cases h1.symm.trans hc; exact h4
theorem own_ns_arv {Z : State} {h : Heap} {a : Addr} {k : ClassId} {ty : FieldType} {z : Int32} {vs : List Value} {dv : Value} (F : Arv Z h a k ty z vs dv) : ∀ cell : Cell, h[a]? = some cell → cell.vm.isStatics = false := fun cell hc => by
  obtain ⟨c, A, -⟩ := F; cases A.1.symm.trans hc; exact A.plain
theorem own_sta_keep {Z : State} {h h' : Heap} {C f d : String} {v : Value} {ws : List Addr} (F : Sta Z h C f d v) (K : Keep h h' ws) (q : ∀ x ∈ ws, ∀ cell : Cell, h[x]? = some cell → cell.vm.isStatics = false) : Sta Z h' C f d v := by
  obtain ⟨cf, i, k, fl, st, cell, h1, h2, h3, h4, h5, h6, h7⟩ := F
  exact ⟨cf, i, k, fl, st, cell, h1, h2, h3, h4, K.2.1 _ _ h5 (fun hm => by rw [q _ hm _ h5] at h6; cases h6), h6, h7⟩
end Own
end Jvm.RoadKit
namespace Jvm.Pilot.@@N@@
open Jvm Jvm.ClassFile Sem Op Lib Jvm.Free Jvm.Stand Jvm.LawKit Jvm.RoadKit Bundle Jvm.Pilot.@@N@@.Jvm.D
theorem own_m (i : Nat) {d : Jvm.Cond} (h : tables_1[i]? = some d) : d ∈ tables_1 := List.mem_of_getElem? h
theorem own_eq_int {args : Array Value} {s first : State} {o : Option Outcome} {idx : List Nat} {t : Term} {k : Int32} (h : (Cond.eq t (.int k)).value args first o s idx = some true) : t.eval args first o idx s = some (.int k) := by
  obtain ⟨x, y, h1, h2, h3, h4⟩ := cmp_v (r := true) (Or.inl h)
  have e2 : y = .int k := (Option.some.inj h2).symm
  subst e2
  obtain ⟨z, rfl⟩ := h4
  have q := h
  simp only [Cond.value, h1, h2] at q
  have : z = k := by simpa using q
  rw [h1, this]
theorem own_eq_ref {args : Array Value} {s first : State} {o : Option Outcome} {idx : List Nat} {t u : Term} {a : Addr} (hu : u.eval args first o idx s = some (.ref a)) (h : (Cond.eq t u).value args first o s idx = some true) : t.eval args first o idx s = some (.ref a) := by
  obtain ⟨x, y, h1, h2, h3, h4⟩ := cmp_v (r := true) (Or.inl h)
  cases hu.symm.trans h2
  have q := h
  simp only [Cond.value, h1, h2] at q
  cases x <;> simp [Kin, Value.isRef] at h3 h4 q ⊢
  rw [h1, q]
theorem own_mod20 (x : Int32) : (x &&& 2147483647) % 20 = 0 ∨ (x &&& 2147483647) % 20 = 1 ∨ (x &&& 2147483647) % 20 = 2 ∨ (x &&& 2147483647) % 20 = 3 ∨ (x &&& 2147483647) % 20 = 4 ∨ (x &&& 2147483647) % 20 = 5 ∨ (x &&& 2147483647) % 20 = 6 ∨ (x &&& 2147483647) % 20 = 7 ∨ (x &&& 2147483647) % 20 = 8 ∨ (x &&& 2147483647) % 20 = 9 ∨ (x &&& 2147483647) % 20 = 10 ∨ (x &&& 2147483647) % 20 = 11 ∨ (x &&& 2147483647) % 20 = 12 ∨ (x &&& 2147483647) % 20 = 13 ∨ (x &&& 2147483647) % 20 = 14 ∨ (x &&& 2147483647) % 20 = 15 ∨ (x &&& 2147483647) % 20 = 16 ∨ (x &&& 2147483647) % 20 = 17 ∨ (x &&& 2147483647) % 20 = 18 ∨ (x &&& 2147483647) % 20 = 19 := by
  have e : (x &&& 2147483647).toInt = x.toInt % (2 ^ 31 : Nat) := c_mask x 2147483647 31 (by decide) (by decide)
  have r := (c_irem (x &&& 2147483647) 20 20 (by decide)).1 (by omega)
  simp only [← Int32.toInt_inj, Int32.reduceToInt] at r ⊢; omega

def own_p0 (j : Int32) : Int32 := if j = 0 then 1 else 0
theorem own_d_prog_17_method_10_code_0 : decode prog_17_method_10_code 0 = .ok (.aload_n 0, 1) := by decide +kernel
theorem own_d_prog_17_method_10_code_1 : decode prog_17_method_10_code 1 = .ok (.astore_n 2, 1) := by decide +kernel
theorem own_d_prog_17_method_10_code_2 : decode prog_17_method_10_code 2 = .ok (.aload_n 2, 1) := by decide +kernel
theorem own_d_prog_17_method_10_code_3 : decode prog_17_method_10_code 3 = .ok (.ifnull 18, 3) := by decide +kernel
theorem own_d_prog_17_method_10_code_6 : decode prog_17_method_10_code 6 = .ok (.aload_n 2, 1) := by decide +kernel
theorem own_d_prog_17_method_10_code_7 : decode prog_17_method_10_code 7 = .ok (.aload_n 1, 1) := by decide +kernel
theorem own_d_prog_17_method_10_code_8 : decode prog_17_method_10_code 8 = .ok (.if_acmp .ne 5, 3) := by decide +kernel
theorem own_d_prog_17_method_10_code_11 : decode prog_17_method_10_code 11 = .ok (.iconst 1, 1) := by decide +kernel
theorem own_d_prog_17_method_10_code_12 : decode prog_17_method_10_code 12 = .ok (.ireturn, 1) := by decide +kernel
theorem own_d_prog_17_method_10_code_13 : decode prog_17_method_10_code 13 = .ok (.aload_n 2, 1) := by decide +kernel
theorem own_d_prog_17_method_10_code_14 : decode prog_17_method_10_code 14 = .ok (.getfield 90, 3) := by decide +kernel
theorem own_d_prog_17_method_10_code_17 : decode prog_17_method_10_code 17 = .ok (.astore_n 2, 1) := by decide +kernel
theorem own_d_prog_17_method_10_code_18 : decode prog_17_method_10_code 18 = .ok (.goto (-16), 3) := by decide +kernel
theorem own_d_prog_17_method_10_code_21 : decode prog_17_method_10_code 21 = .ok (.iconst 0, 1) := by decide +kernel
theorem own_d_prog_17_method_10_code_22 : decode prog_17_method_10_code 22 = .ok (.ireturn, 1) := by decide +kernel
theorem own_pn_com_example_libsortkey_libsortkey_values_AtomicType : plainName "com/example/libsortkey/libsortkey/values/AtomicType" = true := by first | (simp [plainName, overriddenIn]; done) | decide +kernel
def Q_pr0 (Z : State) (jt : Int32) (h0 : Heap) (n0 : Nat) (v : Option Value) (h : Heap) (L : List Loc) : Prop := v = some (.int (own_p0 jt)) ∧ Fr n0 L ∧ h = h0
set_option maxRecDepth 65536 in
set_option maxHeartbeats 40000000 in
theorem rm_pr0 (l : Launch) (Z : State) (a0 : Array Value) (hw : ∀ d ∈ tables_1, d.before a0 Z = true) (ws : List Jvm.Cond) (r_DOUBLE : Addr) (t : Addr) (jt : Int32) (h0 : Heap) (n0 : Nat) (Z0 : n0 ≤ h0.size) (F_DOUBLE_promotion : Fld Z h0 r_DOUBLE "com/example/libsortkey/libsortkey/values/AtomicType" "promotion" "Lcom/example/libsortkey/libsortkey/values/AtomicType;" .null) (H_DOUBLE : r_DOUBLE = t ↔ jt = (0 : Int32)) :
    MetFree l (⟨"com/example/libsortkey/libsortkey/values/AtomicType", "promotesTo", "(Lcom/example/libsortkey/libsortkey/values/AtomicType;)Z"⟩ : MethodName) (head1 (Jvm.Cond.code (⟨"com/example/libsortkey/libsortkey/values/AtomicType", "promotesTo", "(Lcom/example/libsortkey/libsortkey/values/AtomicType;)Z"⟩ : MethodName) prog_17_method_10_code 3 (some .boolean) :: ws) ({ frames := 0, cells := 0, slots := 0, locals := 0 } : Room)) (fun aA U => aA = #[(.ref r_DOUBLE), (.ref t)] ∧ Z.Warmed39 U.vm ∧ U.heap = h0) (fun _ _ _ _ _ => True) (fun _ U o U' => ∃ v L, o = .returned v ∧ Q_pr0 Z jt h0 n0 v U'.heap L ∧ FrameEnd U o U' L ({ frames := 0, cells := 0, slots := 0, locals := 0 } : Room).cells ({ frames := 0, cells := 0, slots := 0, locals := 0 } : Room).slots) := by
  refine MetFree.of_bodySF (plainFor_of_name own_pn_com_example_libsortkey_libsortkey_values_AtomicType) hisR ?_
  intro p e s m args below meth c s₁ Bd hml0 hP hK
  obtain ⟨rfl, hZ, hh⟩ := hP
  have hx := Bd.exec
  have hby := Bd.bytes
  have hlk : meth.locks = false := BodyLoose.notSynchronized Bd
  have hml : c.maxLocals = 3 := hml0
  have hown : s.vm.findClass "com/example/libsortkey/libsortkey/values/AtomicType" = some m.cls := findClass_of_methodNamed Bd.named
  have hnm := (name_of_methodNamed Bd.named Bd.method).1
  have X0 : Stand p l e ({ frames := 0, cells := 0, slots := 0, locals := 0 } : Room) s m #[(.ref r_DOUBLE), (.ref t)] below meth c s₁ [] 0 0 := Stand.of_body Bd
  have e0 : s₁.heap = h0 := by rw [← hh, Bd.state]; rfl
  have N0 := Fr.nil n0
  show own_Go p e below (own_K s (Q_pr0 Z jt h0 n0) ({ frames := 0, cells := 0, slots := 0, locals := 0 } : Room).cells ({ frames := 0, cells := 0, slots := 0, locals := 0 } : Room).slots) (s₁.setTop (entryFrame m #[(.ref r_DOUBLE), (.ref t)] 3))
  rw [(by first | (simp [entryFrame, mkF, argsToLocals, Value.category]; done) | rfl : entryFrame m #[(.ref r_DOUBLE), (.ref t)] 3 = mkF m 0 #[.val (.ref r_DOUBLE), .val (.ref t), .unset] [])]
  show own_Go p e below _ (s₁.setTop (mkF m 0 #[.val (.ref r_DOUBLE), .val (.ref t), .unset] []))
  refine own_go (fun _ hr => XS.aloadN X0.here hx rfl (hb hby own_d_prog_17_method_10_code_0) rfl rfl (XS.astoreN X0.here hx rfl (hb hby own_d_prog_17_method_10_code_1) rfl rfl (l' := #[.val (.ref r_DOUBLE), .val (.ref t), .val (.ref r_DOUBLE)]) rfl (XS.aloadN X0.here hx rfl (hb hby own_d_prog_17_method_10_code_2) rfl rfl hr))) ?_
  show own_Go p e below _ (s₁.setTop (mkF m 3 #[.val (.ref r_DOUBLE), .val (.ref t), .val (.ref r_DOUBLE)] [(.ref r_DOUBLE)]))
  refine own_go (fun _ hr => XS.ifnullNo X0.here hx rfl (hb hby own_d_prog_17_method_10_code_3) rfl hr) ?_
  show own_Go p e below _ (s₁.setTop (mkF m 6 #[.val (.ref r_DOUBLE), .val (.ref t), .val (.ref r_DOUBLE)] []))
  refine own_go (fun _ hr => XS.aloadN X0.here hx rfl (hb hby own_d_prog_17_method_10_code_6) rfl rfl (XS.aloadN X0.here hx rfl (hb hby own_d_prog_17_method_10_code_7) rfl rfl hr)) ?_
  show own_Go p e below _ (s₁.setTop (mkF m 8 #[.val (.ref r_DOUBLE), .val (.ref t), .val (.ref r_DOUBLE)] [(.ref t), (.ref r_DOUBLE)]))
  by_cases c1 : r_DOUBLE = t
  · refine own_go (fun _ hr => Jvm.RoadKit.acmp X0 hx rfl rfl rfl (pc0 := 8) (pc' := 11) (same := true) rfl (hb hby own_d_prog_17_method_10_code_8) rfl (decide_eq_true (congrArg Value.ref c1)) (by decide) (by decide) hr) ?_
    show own_Go p e below _ (s₁.setTop (mkF m 11 #[.val (.ref r_DOUBLE), .val (.ref t), .val (.ref r_DOUBLE)] []))
    refine own_go (fun _ hr => XS.iconst X0.here hx rfl (hb hby own_d_prog_17_method_10_code_11) hr) ?_
    show own_Go p e below _ (s₁.setTop (mkF m 12 #[.val (.ref r_DOUBLE), .val (.ref t), .val (.ref r_DOUBLE)] [(.int (1 : Int32))]))
    have hq0 : jt = (0 : Int32) := H_DOUBLE.mp c1
    exact own_retN X0 hx hlk Bd.returns (t := .boolean) (by simp) (hb hby own_d_prog_17_method_10_code_12) (by decide) (by decide) ⟨(show some (Value.int (1 : Int32)) = some (Value.int (own_p0 jt)) by simp [own_p0, hq0]), N0, e0⟩
  refine own_go (fun _ hr => Jvm.RoadKit.acmp X0 hx rfl rfl rfl (pc0 := 8) (pc' := 13) (same := false) rfl (hb hby own_d_prog_17_method_10_code_8) rfl (decide_eq_false fun q => c1 (Value.ref.inj q)) (by decide) (by decide) hr) ?_
  show own_Go p e below _ (s₁.setTop (mkF m 13 #[.val (.ref r_DOUBLE), .val (.ref t), .val (.ref r_DOUBLE)] []))
  refine own_go (fun _ hr => XS.aloadN X0.here hx rfl (hb hby own_d_prog_17_method_10_code_13) rfl rfl hr) ?_
  show own_Go p e below _ (s₁.setTop (mkF m 14 #[.val (.ref r_DOUBLE), .val (.ref t), .val (.ref r_DOUBLE)] [(.ref r_DOUBLE)]))
  obtain ⟨T2, X2, e2, st2⟩ := getF X0 hx hZ hown (host := "") (Or.inl (hw _ (own_m 50 rfl))) Via.refl e0 F_DOUBLE_promotion (g := (mkF m 14 #[.val (.ref r_DOUBLE), .val (.ref t), .val (.ref r_DOUBLE)] [(.ref r_DOUBLE)])) rfl rfl (hb hby own_d_prog_17_method_10_code_14)
  refine own_go st2 ?_
  show own_Go p e below _ (T2.setTop (mkF m 17 #[.val (.ref r_DOUBLE), .val (.ref t), .val (.ref r_DOUBLE)] [.null]))
  refine own_go (fun _ hr => XS.astoreN X2.here hx rfl (hb hby own_d_prog_17_method_10_code_17) rfl rfl (l' := #[.val (.ref r_DOUBLE), .val (.ref t), .val .null]) rfl (XS.goto X2.here hx rfl (pc0 := 18) (pc' := 2) rfl (hb hby own_d_prog_17_method_10_code_18) (by decide) (by decide) (XS.aloadN X2.here hx rfl (hb hby own_d_prog_17_method_10_code_2) rfl rfl hr))) ?_
  show own_Go p e below _ (T2.setTop (mkF m 3 #[.val (.ref r_DOUBLE), .val (.ref t), .val .null] [.null]))
  refine own_go (fun _ hr => XS.ifnullYes X2.here hx rfl (pc0 := 3) (pc' := 21) rfl (hb hby own_d_prog_17_method_10_code_3) rfl (by decide) (by decide) hr) ?_
  show own_Go p e below _ (T2.setTop (mkF m 21 #[.val (.ref r_DOUBLE), .val (.ref t), .val .null] []))
  refine own_go (fun _ hr => XS.iconst X2.here hx rfl (hb hby own_d_prog_17_method_10_code_21) hr) ?_
  show own_Go p e below _ (T2.setTop (mkF m 22 #[.val (.ref r_DOUBLE), .val (.ref t), .val .null] [(.int (0 : Int32))]))
  have hq0 : ¬ (jt = (0 : Int32)) := fun q => c1 (H_DOUBLE.mpr q)
  exact own_retN X2 hx hlk Bd.returns (t := .boolean) (by simp) (hb hby own_d_prog_17_method_10_code_22) (by decide) (by decide) ⟨(show some (Value.int (0 : Int32)) = some (Value.int (own_p0 jt)) by simp [own_p0, hq0]), N0, e2⟩
def own_p1 (j : Int32) : Int32 := if j = 1 then 1 else if j = 0 then 1 else 0
def Q_pr1 (Z : State) (jt : Int32) (h0 : Heap) (n0 : Nat) (v : Option Value) (h : Heap) (L : List Loc) : Prop := v = some (.int (own_p1 jt)) ∧ Fr n0 L ∧ h = h0
set_option maxRecDepth 65536 in
set_option maxHeartbeats 40000000 in
theorem rm_pr1 (l : Launch) (Z : State) (a0 : Array Value) (hw : ∀ d ∈ tables_1, d.before a0 Z = true) (ws : List Jvm.Cond) (r_FLOAT : Addr) (r_DOUBLE : Addr) (t : Addr) (jt : Int32) (h0 : Heap) (n0 : Nat) (Z0 : n0 ≤ h0.size) (F_FLOAT_promotion : Fld Z h0 r_FLOAT "com/example/libsortkey/libsortkey/values/AtomicType" "promotion" "Lcom/example/libsortkey/libsortkey/values/AtomicType;" (.ref r_DOUBLE)) (F_DOUBLE_promotion : Fld Z h0 r_DOUBLE "com/example/libsortkey/libsortkey/values/AtomicType" "promotion" "Lcom/example/libsortkey/libsortkey/values/AtomicType;" .null) (H_FLOAT : r_FLOAT = t ↔ jt = (1 : Int32)) (H_DOUBLE : r_DOUBLE = t ↔ jt = (0 : Int32)) :
    MetFree l (⟨"com/example/libsortkey/libsortkey/values/AtomicType", "promotesTo", "(Lcom/example/libsortkey/libsortkey/values/AtomicType;)Z"⟩ : MethodName) (head1 (Jvm.Cond.code (⟨"com/example/libsortkey/libsortkey/values/AtomicType", "promotesTo", "(Lcom/example/libsortkey/libsortkey/values/AtomicType;)Z"⟩ : MethodName) prog_17_method_10_code 3 (some .boolean) :: ws) ({ frames := 0, cells := 0, slots := 0, locals := 0 } : Room)) (fun aA U => aA = #[(.ref r_FLOAT), (.ref t)] ∧ Z.Warmed39 U.vm ∧ U.heap = h0) (fun _ _ _ _ _ => True) (fun _ U o U' => ∃ v L, o = .returned v ∧ Q_pr1 Z jt h0 n0 v U'.heap L ∧ FrameEnd U o U' L ({ frames := 0, cells := 0, slots := 0, locals := 0 } : Room).cells ({ frames := 0, cells := 0, slots := 0, locals := 0 } : Room).slots) := by
  refine MetFree.of_bodySF (plainFor_of_name own_pn_com_example_libsortkey_libsortkey_values_AtomicType) hisR ?_
  intro p e s m args below meth c s₁ Bd hml0 hP hK
  obtain ⟨rfl, hZ, hh⟩ := hP
  have hx := Bd.exec
  have hby := Bd.bytes
  have hlk : meth.locks = false := BodyLoose.notSynchronized Bd
  have hml : c.maxLocals = 3 := hml0
  have hown : s.vm.findClass "com/example/libsortkey/libsortkey/values/AtomicType" = some m.cls := findClass_of_methodNamed Bd.named
  have hnm := (name_of_methodNamed Bd.named Bd.method).1
  have X0 : Stand p l e ({ frames := 0, cells := 0, slots := 0, locals := 0 } : Room) s m #[(.ref r_FLOAT), (.ref t)] below meth c s₁ [] 0 0 := Stand.of_body Bd
  have e0 : s₁.heap = h0 := by rw [← hh, Bd.state]; rfl
  have N0 := Fr.nil n0
  show own_Go p e below (own_K s (Q_pr1 Z jt h0 n0) ({ frames := 0, cells := 0, slots := 0, locals := 0 } : Room).cells ({ frames := 0, cells := 0, slots := 0, locals := 0 } : Room).slots) (s₁.setTop (entryFrame m #[(.ref r_FLOAT), (.ref t)] 3))
  rw [(by first | (simp [entryFrame, mkF, argsToLocals, Value.category]; done) | rfl : entryFrame m #[(.ref r_FLOAT), (.ref t)] 3 = mkF m 0 #[.val (.ref r_FLOAT), .val (.ref t), .unset] [])]
  show own_Go p e below _ (s₁.setTop (mkF m 0 #[.val (.ref r_FLOAT), .val (.ref t), .unset] []))
  refine own_go (fun _ hr => XS.aloadN X0.here hx rfl (hb hby own_d_prog_17_method_10_code_0) rfl rfl (XS.astoreN X0.here hx rfl (hb hby own_d_prog_17_method_10_code_1) rfl rfl (l' := #[.val (.ref r_FLOAT), .val (.ref t), .val (.ref r_FLOAT)]) rfl (XS.aloadN X0.here hx rfl (hb hby own_d_prog_17_method_10_code_2) rfl rfl hr))) ?_
  show own_Go p e below _ (s₁.setTop (mkF m 3 #[.val (.ref r_FLOAT), .val (.ref t), .val (.ref r_FLOAT)] [(.ref r_FLOAT)]))
  refine own_go (fun _ hr => XS.ifnullNo X0.here hx rfl (hb hby own_d_prog_17_method_10_code_3) rfl hr) ?_
  show own_Go p e below _ (s₁.setTop (mkF m 6 #[.val (.ref r_FLOAT), .val (.ref t), .val (.ref r_FLOAT)] []))
  refine own_go (fun _ hr => XS.aloadN X0.here hx rfl (hb hby own_d_prog_17_method_10_code_6) rfl rfl (XS.aloadN X0.here hx rfl (hb hby own_d_prog_17_method_10_code_7) rfl rfl hr)) ?_
  show own_Go p e below _ (s₁.setTop (mkF m 8 #[.val (.ref r_FLOAT), .val (.ref t), .val (.ref r_FLOAT)] [(.ref t), (.ref r_FLOAT)]))
  by_cases c1 : r_FLOAT = t
  · refine own_go (fun _ hr => Jvm.RoadKit.acmp X0 hx rfl rfl rfl (pc0 := 8) (pc' := 11) (same := true) rfl (hb hby own_d_prog_17_method_10_code_8) rfl (decide_eq_true (congrArg Value.ref c1)) (by decide) (by decide) hr) ?_
    show own_Go p e below _ (s₁.setTop (mkF m 11 #[.val (.ref r_FLOAT), .val (.ref t), .val (.ref r_FLOAT)] []))
    refine own_go (fun _ hr => XS.iconst X0.here hx rfl (hb hby own_d_prog_17_method_10_code_11) hr) ?_
    show own_Go p e below _ (s₁.setTop (mkF m 12 #[.val (.ref r_FLOAT), .val (.ref t), .val (.ref r_FLOAT)] [(.int (1 : Int32))]))
    have hq1 : jt = (1 : Int32) := H_FLOAT.mp c1
    exact own_retN X0 hx hlk Bd.returns (t := .boolean) (by simp) (hb hby own_d_prog_17_method_10_code_12) (by decide) (by decide) ⟨(show some (Value.int (1 : Int32)) = some (Value.int (own_p1 jt)) by simp [own_p1, hq1]), N0, e0⟩
  refine own_go (fun _ hr => Jvm.RoadKit.acmp X0 hx rfl rfl rfl (pc0 := 8) (pc' := 13) (same := false) rfl (hb hby own_d_prog_17_method_10_code_8) rfl (decide_eq_false fun q => c1 (Value.ref.inj q)) (by decide) (by decide) hr) ?_
  show own_Go p e below _ (s₁.setTop (mkF m 13 #[.val (.ref r_FLOAT), .val (.ref t), .val (.ref r_FLOAT)] []))
  refine own_go (fun _ hr => XS.aloadN X0.here hx rfl (hb hby own_d_prog_17_method_10_code_13) rfl rfl hr) ?_
  show own_Go p e below _ (s₁.setTop (mkF m 14 #[.val (.ref r_FLOAT), .val (.ref t), .val (.ref r_FLOAT)] [(.ref r_FLOAT)]))
  obtain ⟨T2, X2, e2, st2⟩ := getF X0 hx hZ hown (host := "") (Or.inl (hw _ (own_m 50 rfl))) Via.refl e0 F_FLOAT_promotion (g := (mkF m 14 #[.val (.ref r_FLOAT), .val (.ref t), .val (.ref r_FLOAT)] [(.ref r_FLOAT)])) rfl rfl (hb hby own_d_prog_17_method_10_code_14)
  refine own_go st2 ?_
  show own_Go p e below _ (T2.setTop (mkF m 17 #[.val (.ref r_FLOAT), .val (.ref t), .val (.ref r_FLOAT)] [(.ref r_DOUBLE)]))
  refine own_go (fun _ hr => XS.astoreN X2.here hx rfl (hb hby own_d_prog_17_method_10_code_17) rfl rfl (l' := #[.val (.ref r_FLOAT), .val (.ref t), .val (.ref r_DOUBLE)]) rfl (XS.goto X2.here hx rfl (pc0 := 18) (pc' := 2) rfl (hb hby own_d_prog_17_method_10_code_18) (by decide) (by decide) (XS.aloadN X2.here hx rfl (hb hby own_d_prog_17_method_10_code_2) rfl rfl hr))) ?_
  show own_Go p e below _ (T2.setTop (mkF m 3 #[.val (.ref r_FLOAT), .val (.ref t), .val (.ref r_DOUBLE)] [(.ref r_DOUBLE)]))
  refine own_go (fun _ hr => XS.ifnullNo X2.here hx rfl (hb hby own_d_prog_17_method_10_code_3) rfl hr) ?_
  show own_Go p e below _ (T2.setTop (mkF m 6 #[.val (.ref r_FLOAT), .val (.ref t), .val (.ref r_DOUBLE)] []))
  refine own_go (fun _ hr => XS.aloadN X2.here hx rfl (hb hby own_d_prog_17_method_10_code_6) rfl rfl (XS.aloadN X2.here hx rfl (hb hby own_d_prog_17_method_10_code_7) rfl rfl hr)) ?_
  show own_Go p e below _ (T2.setTop (mkF m 8 #[.val (.ref r_FLOAT), .val (.ref t), .val (.ref r_DOUBLE)] [(.ref t), (.ref r_DOUBLE)]))
  by_cases c3 : r_DOUBLE = t
  · refine own_go (fun _ hr => Jvm.RoadKit.acmp X2 hx rfl rfl rfl (pc0 := 8) (pc' := 11) (same := true) rfl (hb hby own_d_prog_17_method_10_code_8) rfl (decide_eq_true (congrArg Value.ref c3)) (by decide) (by decide) hr) ?_
    show own_Go p e below _ (T2.setTop (mkF m 11 #[.val (.ref r_FLOAT), .val (.ref t), .val (.ref r_DOUBLE)] []))
    refine own_go (fun _ hr => XS.iconst X2.here hx rfl (hb hby own_d_prog_17_method_10_code_11) hr) ?_
    show own_Go p e below _ (T2.setTop (mkF m 12 #[.val (.ref r_FLOAT), .val (.ref t), .val (.ref r_DOUBLE)] [(.int (1 : Int32))]))
    have hq1 : ¬ (jt = (1 : Int32)) := fun q => c1 (H_FLOAT.mpr q)
    have hq0 : jt = (0 : Int32) := H_DOUBLE.mp c3
    exact own_retN X2 hx hlk Bd.returns (t := .boolean) (by simp) (hb hby own_d_prog_17_method_10_code_12) (by decide) (by decide) ⟨(show some (Value.int (1 : Int32)) = some (Value.int (own_p1 jt)) by simp [own_p1, hq1, hq0]), N0, e2⟩
  refine own_go (fun _ hr => Jvm.RoadKit.acmp X2 hx rfl rfl rfl (pc0 := 8) (pc' := 13) (same := false) rfl (hb hby own_d_prog_17_method_10_code_8) rfl (decide_eq_false fun q => c3 (Value.ref.inj q)) (by decide) (by decide) hr) ?_
  show own_Go p e below _ (T2.setTop (mkF m 13 #[.val (.ref r_FLOAT), .val (.ref t), .val (.ref r_DOUBLE)] []))
  refine own_go (fun _ hr => XS.aloadN X2.here hx rfl (hb hby own_d_prog_17_method_10_code_13) rfl rfl hr) ?_
  show own_Go p e below _ (T2.setTop (mkF m 14 #[.val (.ref r_FLOAT), .val (.ref t), .val (.ref r_DOUBLE)] [(.ref r_DOUBLE)]))
  obtain ⟨T4, X4, e4, st4⟩ := getF X2 hx hZ hown (host := "") (Or.inl (hw _ (own_m 50 rfl))) Via.refl e2 F_DOUBLE_promotion (g := (mkF m 14 #[.val (.ref r_FLOAT), .val (.ref t), .val (.ref r_DOUBLE)] [(.ref r_DOUBLE)])) rfl rfl (hb hby own_d_prog_17_method_10_code_14)
  refine own_go st4 ?_
  show own_Go p e below _ (T4.setTop (mkF m 17 #[.val (.ref r_FLOAT), .val (.ref t), .val (.ref r_DOUBLE)] [.null]))
  refine own_go (fun _ hr => XS.astoreN X4.here hx rfl (hb hby own_d_prog_17_method_10_code_17) rfl rfl (l' := #[.val (.ref r_FLOAT), .val (.ref t), .val .null]) rfl (XS.goto X4.here hx rfl (pc0 := 18) (pc' := 2) rfl (hb hby own_d_prog_17_method_10_code_18) (by decide) (by decide) (XS.aloadN X4.here hx rfl (hb hby own_d_prog_17_method_10_code_2) rfl rfl hr))) ?_
  show own_Go p e below _ (T4.setTop (mkF m 3 #[.val (.ref r_FLOAT), .val (.ref t), .val .null] [.null]))
  refine own_go (fun _ hr => XS.ifnullYes X4.here hx rfl (pc0 := 3) (pc' := 21) rfl (hb hby own_d_prog_17_method_10_code_3) rfl (by decide) (by decide) hr) ?_
  show own_Go p e below _ (T4.setTop (mkF m 21 #[.val (.ref r_FLOAT), .val (.ref t), .val .null] []))
  refine own_go (fun _ hr => XS.iconst X4.here hx rfl (hb hby own_d_prog_17_method_10_code_21) hr) ?_
  show own_Go p e below _ (T4.setTop (mkF m 22 #[.val (.ref r_FLOAT), .val (.ref t), .val .null] [(.int (0 : Int32))]))
  have hq1 : ¬ (jt = (1 : Int32)) := fun q => c1 (H_FLOAT.mpr q)
  have hq0 : ¬ (jt = (0 : Int32)) := fun q => c3 (H_DOUBLE.mpr q)
  exact own_retN X4 hx hlk Bd.returns (t := .boolean) (by simp) (hb hby own_d_prog_17_method_10_code_22) (by decide) (by decide) ⟨(show some (Value.int (0 : Int32)) = some (Value.int (own_p1 jt)) by simp [own_p1, hq1, hq0]), N0, e4⟩
def own_p2 (j : Int32) : Int32 := if j = 2 then 1 else if j = 1 then 1 else if j = 0 then 1 else 0
def Q_pr2 (Z : State) (jt : Int32) (h0 : Heap) (n0 : Nat) (v : Option Value) (h : Heap) (L : List Loc) : Prop := v = some (.int (own_p2 jt)) ∧ Fr n0 L ∧ h = h0
set_option maxRecDepth 65536 in
set_option maxHeartbeats 40000000 in
theorem rm_pr2 (l : Launch) (Z : State) (a0 : Array Value) (hw : ∀ d ∈ tables_1, d.before a0 Z = true) (ws : List Jvm.Cond) (r_DECIMAL : Addr) (r_FLOAT : Addr) (r_DOUBLE : Addr) (t : Addr) (jt : Int32) (h0 : Heap) (n0 : Nat) (Z0 : n0 ≤ h0.size) (F_DECIMAL_promotion : Fld Z h0 r_DECIMAL "com/example/libsortkey/libsortkey/values/AtomicType" "promotion" "Lcom/example/libsortkey/libsortkey/values/AtomicType;" (.ref r_FLOAT)) (F_FLOAT_promotion : Fld Z h0 r_FLOAT "com/example/libsortkey/libsortkey/values/AtomicType" "promotion" "Lcom/example/libsortkey/libsortkey/values/AtomicType;" (.ref r_DOUBLE)) (F_DOUBLE_promotion : Fld Z h0 r_DOUBLE "com/example/libsortkey/libsortkey/values/AtomicType" "promotion" "Lcom/example/libsortkey/libsortkey/values/AtomicType;" .null) (H_DECIMAL : r_DECIMAL = t ↔ jt = (2 : Int32)) (H_FLOAT : r_FLOAT = t ↔ jt = (1 : Int32)) (H_DOUBLE : r_DOUBLE = t ↔ jt = (0 : Int32)) :
    MetFree l (⟨"com/example/libsortkey/libsortkey/values/AtomicType", "promotesTo", "(Lcom/example/libsortkey/libsortkey/values/AtomicType;)Z"⟩ : MethodName) (head1 (Jvm.Cond.code (⟨"com/example/libsortkey/libsortkey/values/AtomicType", "promotesTo", "(Lcom/example/libsortkey/libsortkey/values/AtomicType;)Z"⟩ : MethodName) prog_17_method_10_code 3 (some .boolean) :: ws) ({ frames := 0, cells := 0, slots := 0, locals := 0 } : Room)) (fun aA U => aA = #[(.ref r_DECIMAL), (.ref t)] ∧ Z.Warmed39 U.vm ∧ U.heap = h0) (fun _ _ _ _ _ => True) (fun _ U o U' => ∃ v L, o = .returned v ∧ Q_pr2 Z jt h0 n0 v U'.heap L ∧ FrameEnd U o U' L ({ frames := 0, cells := 0, slots := 0, locals := 0 } : Room).cells ({ frames := 0, cells := 0, slots := 0, locals := 0 } : Room).slots) := by
  refine MetFree.of_bodySF (plainFor_of_name own_pn_com_example_libsortkey_libsortkey_values_AtomicType) hisR ?_
  intro p e s m args below meth c s₁ Bd hml0 hP hK
  obtain ⟨rfl, hZ, hh⟩ := hP
  have hx := Bd.exec
  have hby := Bd.bytes
  have hlk : meth.locks = false := BodyLoose.notSynchronized Bd
  have hml : c.maxLocals = 3 := hml0
  have hown : s.vm.findClass "com/example/libsortkey/libsortkey/values/AtomicType" = some m.cls := findClass_of_methodNamed Bd.named
  have hnm := (name_of_methodNamed Bd.named Bd.method).1
  have X0 : Stand p l e ({ frames := 0, cells := 0, slots := 0, locals := 0 } : Room) s m #[(.ref r_DECIMAL), (.ref t)] below meth c s₁ [] 0 0 := Stand.of_body Bd
  have e0 : s₁.heap = h0 := by rw [← hh, Bd.state]; rfl
  have N0 := Fr.nil n0
  show own_Go p e below (own_K s (Q_pr2 Z jt h0 n0) ({ frames := 0, cells := 0, slots := 0, locals := 0 } : Room).cells ({ frames := 0, cells := 0, slots := 0, locals := 0 } : Room).slots) (s₁.setTop (entryFrame m #[(.ref r_DECIMAL), (.ref t)] 3))
  rw [(by first | (simp [entryFrame, mkF, argsToLocals, Value.category]; done) | rfl : entryFrame m #[(.ref r_DECIMAL), (.ref t)] 3 = mkF m 0 #[.val (.ref r_DECIMAL), .val (.ref t), .unset] [])]
  show own_Go p e below _ (s₁.setTop (mkF m 0 #[.val (.ref r_DECIMAL), .val (.ref t), .unset] []))
  refine own_go (fun _ hr => XS.aloadN X0.here hx rfl (hb hby own_d_prog_17_method_10_code_0) rfl rfl (XS.astoreN X0.here hx rfl (hb hby own_d_prog_17_method_10_code_1) rfl rfl (l' := #[.val (.ref r_DECIMAL), .val (.ref t), .val (.ref r_DECIMAL)]) rfl (XS.aloadN X0.here hx rfl (hb hby own_d_prog_17_method_10_code_2) rfl rfl hr))) ?_
  show own_Go p e below _ (s₁.setTop (mkF m 3 #[.val (.ref r_DECIMAL), .val (.ref t), .val (.ref r_DECIMAL)] [(.ref r_DECIMAL)]))
  refine own_go (fun _ hr => XS.ifnullNo X0.here hx rfl (hb hby own_d_prog_17_method_10_code_3) rfl hr) ?_
  show own_Go p e below _ (s₁.setTop (mkF m 6 #[.val (.ref r_DECIMAL), .val (.ref t), .val (.ref r_DECIMAL)] []))
  refine own_go (fun _ hr => XS.aloadN X0.here hx rfl (hb hby own_d_prog_17_method_10_code_6) rfl rfl (XS.aloadN X0.here hx rfl (hb hby own_d_prog_17_method_10_code_7) rfl rfl hr)) ?_
  show own_Go p e below _ (s₁.setTop (mkF m 8 #[.val (.ref r_DECIMAL), .val (.ref t), .val (.ref r_DECIMAL)] [(.ref t), (.ref r_DECIMAL)]))
  by_cases c1 : r_DECIMAL = t
  · refine own_go (fun _ hr => Jvm.RoadKit.acmp X0 hx rfl rfl rfl (pc0 := 8) (pc' := 11) (same := true) rfl (hb hby own_d_prog_17_method_10_code_8) rfl (decide_eq_true (congrArg Value.ref c1)) (by decide) (by decide) hr) ?_
    show own_Go p e below _ (s₁.setTop (mkF m 11 #[.val (.ref r_DECIMAL), .val (.ref t), .val (.ref r_DECIMAL)] []))
    refine own_go (fun _ hr => XS.iconst X0.here hx rfl (hb hby own_d_prog_17_method_10_code_11) hr) ?_
    show own_Go p e below _ (s₁.setTop (mkF m 12 #[.val (.ref r_DECIMAL), .val (.ref t), .val (.ref r_DECIMAL)] [(.int (1 : Int32))]))
    have hq2 : jt = (2 : Int32) := H_DECIMAL.mp c1
    exact own_retN X0 hx hlk Bd.returns (t := .boolean) (by simp) (hb hby own_d_prog_17_method_10_code_12) (by decide) (by decide) ⟨(show some (Value.int (1 : Int32)) = some (Value.int (own_p2 jt)) by simp [own_p2, hq2]), N0, e0⟩
  refine own_go (fun _ hr => Jvm.RoadKit.acmp X0 hx rfl rfl rfl (pc0 := 8) (pc' := 13) (same := false) rfl (hb hby own_d_prog_17_method_10_code_8) rfl (decide_eq_false fun q => c1 (Value.ref.inj q)) (by decide) (by decide) hr) ?_
  show own_Go p e below _ (s₁.setTop (mkF m 13 #[.val (.ref r_DECIMAL), .val (.ref t), .val (.ref r_DECIMAL)] []))
  refine own_go (fun _ hr => XS.aloadN X0.here hx rfl (hb hby own_d_prog_17_method_10_code_13) rfl rfl hr) ?_
  show own_Go p e below _ (s₁.setTop (mkF m 14 #[.val (.ref r_DECIMAL), .val (.ref t), .val (.ref r_DECIMAL)] [(.ref r_DECIMAL)]))
  obtain ⟨T2, X2, e2, st2⟩ := getF X0 hx hZ hown (host := "") (Or.inl (hw _ (own_m 50 rfl))) Via.refl e0 F_DECIMAL_promotion (g := (mkF m 14 #[.val (.ref r_DECIMAL), .val (.ref t), .val (.ref r_DECIMAL)] [(.ref r_DECIMAL)])) rfl rfl (hb hby own_d_prog_17_method_10_code_14)
  refine own_go st2 ?_
  show own_Go p e below _ (T2.setTop (mkF m 17 #[.val (.ref r_DECIMAL), .val (.ref t), .val (.ref r_DECIMAL)] [(.ref r_FLOAT)]))
  refine own_go (fun _ hr => XS.astoreN X2.here hx rfl (hb hby own_d_prog_17_method_10_code_17) rfl rfl (l' := #[.val (.ref r_DECIMAL), .val (.ref t), .val (.ref r_FLOAT)]) rfl (XS.goto X2.here hx rfl (pc0 := 18) (pc' := 2) rfl (hb hby own_d_prog_17_method_10_code_18) (by decide) (by decide) (XS.aloadN X2.here hx rfl (hb hby own_d_prog_17_method_10_code_2) rfl rfl hr))) ?_
  show own_Go p e below _ (T2.setTop (mkF m 3 #[.val (.ref r_DECIMAL), .val (.ref t), .val (.ref r_FLOAT)] [(.ref r_FLOAT)]))
  refine own_go (fun _ hr => XS.ifnullNo X2.here hx rfl (hb hby own_d_prog_17_method_10_code_3) rfl hr) ?_
  show own_Go p e below _ (T2.setTop (mkF m 6 #[.val (.ref r_DECIMAL), .val (.ref t), .val (.ref r_FLOAT)] []))
  refine own_go (fun _ hr => XS.aloadN X2.here hx rfl (hb hby own_d_prog_17_method_10_code_6) rfl rfl (XS.aloadN X2.here hx rfl (hb hby own_d_prog_17_method_10_code_7) rfl rfl hr)) ?_
  show own_Go p e below _ (T2.setTop (mkF m 8 #[.val (.ref r_DECIMAL), .val (.ref t), .val (.ref r_FLOAT)] [(.ref t), (.ref r_FLOAT)]))
  by_cases c3 : r_FLOAT = t
  · refine own_go (fun _ hr => Jvm.RoadKit.acmp X2 hx rfl rfl rfl (pc0 := 8) (pc' := 11) (same := true) rfl (hb hby own_d_prog_17_method_10_code_8) rfl (decide_eq_true (congrArg Value.ref c3)) (by decide) (by decide) hr) ?_
    show own_Go p e below _ (T2.setTop (mkF m 11 #[.val (.ref r_DECIMAL), .val (.ref t), .val (.ref r_FLOAT)] []))
    refine own_go (fun _ hr => XS.iconst X2.here hx rfl (hb hby own_d_prog_17_method_10_code_11) hr) ?_
    show own_Go p e below _ (T2.setTop (mkF m 12 #[.val (.ref r_DECIMAL), .val (.ref t), .val (.ref r_FLOAT)] [(.int (1 : Int32))]))
    have hq2 : ¬ (jt = (2 : Int32)) := fun q => c1 (H_DECIMAL.mpr q)
    have hq1 : jt = (1 : Int32) := H_FLOAT.mp c3
    exact own_retN X2 hx hlk Bd.returns (t := .boolean) (by simp) (hb hby own_d_prog_17_method_10_code_12) (by decide) (by decide) ⟨(show some (Value.int (1 : Int32)) = some (Value.int (own_p2 jt)) by simp [own_p2, hq2, hq1]), N0, e2⟩
  refine own_go (fun _ hr => Jvm.RoadKit.acmp X2 hx rfl rfl rfl (pc0 := 8) (pc' := 13) (same := false) rfl (hb hby own_d_prog_17_method_10_code_8) rfl (decide_eq_false fun q => c3 (Value.ref.inj q)) (by decide) (by decide) hr) ?_
  show own_Go p e below _ (T2.setTop (mkF m 13 #[.val (.ref r_DECIMAL), .val (.ref t), .val (.ref r_FLOAT)] []))
  refine own_go (fun _ hr => XS.aloadN X2.here hx rfl (hb hby own_d_prog_17_method_10_code_13) rfl rfl hr) ?_
  show own_Go p e below _ (T2.setTop (mkF m 14 #[.val (.ref r_DECIMAL), .val (.ref t), .val (.ref r_FLOAT)] [(.ref r_FLOAT)]))
  obtain ⟨T4, X4, e4, st4⟩ := getF X2 hx hZ hown (host := "") (Or.inl (hw _ (own_m 50 rfl))) Via.refl e2 F_FLOAT_promotion (g := (mkF m 14 #[.val (.ref r_DECIMAL), .val (.ref t), .val (.ref r_FLOAT)] [(.ref r_FLOAT)])) rfl rfl (hb hby own_d_prog_17_method_10_code_14)
  refine own_go st4 ?_
  show own_Go p e below _ (T4.setTop (mkF m 17 #[.val (.ref r_DECIMAL), .val (.ref t), .val (.ref r_FLOAT)] [(.ref r_DOUBLE)]))
  refine own_go (fun _ hr => XS.astoreN X4.here hx rfl (hb hby own_d_prog_17_method_10_code_17) rfl rfl (l' := #[.val (.ref r_DECIMAL), .val (.ref t), .val (.ref r_DOUBLE)]) rfl (XS.goto X4.here hx rfl (pc0 := 18) (pc' := 2) rfl (hb hby own_d_prog_17_method_10_code_18) (by decide) (by decide) (XS.aloadN X4.here hx rfl (hb hby own_d_prog_17_method_10_code_2) rfl rfl hr))) ?_
  show own_Go p e below _ (T4.setTop (mkF m 3 #[.val (.ref r_DECIMAL), .val (.ref t), .val (.ref r_DOUBLE)] [(.ref r_DOUBLE)]))
  refine own_go (fun _ hr => XS.ifnullNo X4.here hx rfl (hb hby own_d_prog_17_method_10_code_3) rfl hr) ?_
  show own_Go p e below _ (T4.setTop (mkF m 6 #[.val (.ref r_DECIMAL), .val (.ref t), .val (.ref r_DOUBLE)] []))
  refine own_go (fun _ hr => XS.aloadN X4.here hx rfl (hb hby own_d_prog_17_method_10_code_6) rfl rfl (XS.aloadN X4.here hx rfl (hb hby own_d_prog_17_method_10_code_7) rfl rfl hr)) ?_
  show own_Go p e below _ (T4.setTop (mkF m 8 #[.val (.ref r_DECIMAL), .val (.ref t), .val (.ref r_DOUBLE)] [(.ref t), (.ref r_DOUBLE)]))
  by_cases c5 : r_DOUBLE = t
  · refine own_go (fun _ hr => Jvm.RoadKit.acmp X4 hx rfl rfl rfl (pc0 := 8) (pc' := 11) (same := true) rfl (hb hby own_d_prog_17_method_10_code_8) rfl (decide_eq_true (congrArg Value.ref c5)) (by decide) (by decide) hr) ?_
    show own_Go p e below _ (T4.setTop (mkF m 11 #[.val (.ref r_DECIMAL), .val (.ref t), .val (.ref r_DOUBLE)] []))
    refine own_go (fun _ hr => XS.iconst X4.here hx rfl (hb hby own_d_prog_17_method_10_code_11) hr) ?_
    show own_Go p e below _ (T4.setTop (mkF m 12 #[.val (.ref r_DECIMAL), .val (.ref t), .val (.ref r_DOUBLE)] [(.int (1 : Int32))]))
    have hq2 : ¬ (jt = (2 : Int32)) := fun q => c1 (H_DECIMAL.mpr q)
    have hq1 : ¬ (jt = (1 : Int32)) := fun q => c3 (H_FLOAT.mpr q)
    have hq0 : jt = (0 : Int32) := H_DOUBLE.mp c5
    exact own_retN X4 hx hlk Bd.returns (t := .boolean) (by simp) (hb hby own_d_prog_17_method_10_code_12) (by decide) (by decide) ⟨(show some (Value.int (1 : Int32)) = some (Value.int (own_p2 jt)) by simp [own_p2, hq2, hq1, hq0]), N0, e4⟩
  refine own_go (fun _ hr => Jvm.RoadKit.acmp X4 hx rfl rfl rfl (pc0 := 8) (pc' := 13) (same := false) rfl (hb hby own_d_prog_17_method_10_code_8) rfl (decide_eq_false fun q => c5 (Value.ref.inj q)) (by decide) (by decide) hr) ?_
  show own_Go p e below _ (T4.setTop (mkF m 13 #[.val (.ref r_DECIMAL), .val (.ref t), .val (.ref r_DOUBLE)] []))
  refine own_go (fun _ hr => XS.aloadN X4.here hx rfl (hb hby own_d_prog_17_method_10_code_13) rfl rfl hr) ?_
  show own_Go p e below _ (T4.setTop (mkF m 14 #[.val (.ref r_DECIMAL), .val (.ref t), .val (.ref r_DOUBLE)] [(.ref r_DOUBLE)]))
  obtain ⟨T6, X6, e6, st6⟩ := getF X4 hx hZ hown (host := "") (Or.inl (hw _ (own_m 50 rfl))) Via.refl e4 F_DOUBLE_promotion (g := (mkF m 14 #[.val (.ref r_DECIMAL), .val (.ref t), .val (.ref r_DOUBLE)] [(.ref r_DOUBLE)])) rfl rfl (hb hby own_d_prog_17_method_10_code_14)
  refine own_go st6 ?_
  show own_Go p e below _ (T6.setTop (mkF m 17 #[.val (.ref r_DECIMAL), .val (.ref t), .val (.ref r_DOUBLE)] [.null]))
  refine own_go (fun _ hr => XS.astoreN X6.here hx rfl (hb hby own_d_prog_17_method_10_code_17) rfl rfl (l' := #[.val (.ref r_DECIMAL), .val (.ref t), .val .null]) rfl (XS.goto X6.here hx rfl (pc0 := 18) (pc' := 2) rfl (hb hby own_d_prog_17_method_10_code_18) (by decide) (by decide) (XS.aloadN X6.here hx rfl (hb hby own_d_prog_17_method_10_code_2) rfl rfl hr))) ?_
  show own_Go p e below _ (T6.setTop (mkF m 3 #[.val (.ref r_DECIMAL), .val (.ref t), .val .null] [.null]))
  refine own_go (fun _ hr => XS.ifnullYes X6.here hx rfl (pc0 := 3) (pc' := 21) rfl (hb hby own_d_prog_17_method_10_code_3) rfl (by decide) (by decide) hr) ?_
  show own_Go p e below _ (T6.setTop (mkF m 21 #[.val (.ref r_DECIMAL), .val (.ref t), .val .null] []))
  refine own_go (fun _ hr => XS.iconst X6.here hx rfl (hb hby own_d_prog_17_method_10_code_21) hr) ?_
  show own_Go p e below _ (T6.setTop (mkF m 22 #[.val (.ref r_DECIMAL), .val (.ref t), .val .null] [(.int (0 : Int32))]))
  have hq2 : ¬ (jt = (2 : Int32)) := fun q => c1 (H_DECIMAL.mpr q)
  have hq1 : ¬ (jt = (1 : Int32)) := fun q => c3 (H_FLOAT.mpr q)
  have hq0 : ¬ (jt = (0 : Int32)) := fun q => c5 (H_DOUBLE.mpr q)
  exact own_retN X6 hx hlk Bd.returns (t := .boolean) (by simp) (hb hby own_d_prog_17_method_10_code_22) (by decide) (by decide) ⟨(show some (Value.int (0 : Int32)) = some (Value.int (own_p2 jt)) by simp [own_p2, hq2, hq1, hq0]), N0, e6⟩
def own_p3 (j : Int32) : Int32 := if j = 3 then 1 else if j = 2 then 1 else if j = 1 then 1 else if j = 0 then 1 else 0
def Q_pr3 (Z : State) (jt : Int32) (h0 : Heap) (n0 : Nat) (v : Option Value) (h : Heap) (L : List Loc) : Prop := v = some (.int (own_p3 jt)) ∧ Fr n0 L ∧ h = h0
set_option maxRecDepth 65536 in
set_option maxHeartbeats 40000000 in
theorem rm_pr3 (l : Launch) (Z : State) (a0 : Array Value) (hw : ∀ d ∈ tables_1, d.before a0 Z = true) (ws : List Jvm.Cond) (r_INTEGER : Addr) (r_DECIMAL : Addr) (r_FLOAT : Addr) (r_DOUBLE : Addr) (t : Addr) (jt : Int32) (h0 : Heap) (n0 : Nat) (Z0 : n0 ≤ h0.size) (F_INTEGER_promotion : Fld Z h0 r_INTEGER "com/example/libsortkey/libsortkey/values/AtomicType" "promotion" "Lcom/example/libsortkey/libsortkey/values/AtomicType;" (.ref r_DECIMAL)) (F_DECIMAL_promotion : Fld Z h0 r_DECIMAL "com/example/libsortkey/libsortkey/values/AtomicType" "promotion" "Lcom/example/libsortkey/libsortkey/values/AtomicType;" (.ref r_FLOAT)) (F_FLOAT_promotion : Fld Z h0 r_FLOAT "com/example/libsortkey/libsortkey/values/AtomicType" "promotion" "Lcom/example/libsortkey/libsortkey/values/AtomicType;" (.ref r_DOUBLE)) (F_DOUBLE_promotion : Fld Z h0 r_DOUBLE "com/example/libsortkey/libsortkey/values/AtomicType" "promotion" "Lcom/example/libsortkey/libsortkey/values/AtomicType;" .null) (H_INTEGER : r_INTEGER = t ↔ jt = (3 : Int32)) (H_DECIMAL : r_DECIMAL = t ↔ jt = (2 : Int32)) (H_FLOAT : r_FLOAT = t ↔ jt = (1 : Int32)) (H_DOUBLE : r_DOUBLE = t ↔ jt = (0 : Int32)) :
    MetFree l (⟨"com/example/libsortkey/libsortkey/values/AtomicType", "promotesTo", "(Lcom/example/libsortkey/libsortkey/values/AtomicType;)Z"⟩ : MethodName) (head1 (Jvm.Cond.code (⟨"com/example/libsortkey/libsortkey/values/AtomicType", "promotesTo", "(Lcom/example/libsortkey/libsortkey/values/AtomicType;)Z"⟩ : MethodName) prog_17_method_10_code 3 (some .boolean) :: ws) ({ frames := 0, cells := 0, slots := 0, locals := 0 } : Room)) (fun aA U => aA = #[(.ref r_INTEGER), (.ref t)] ∧ Z.Warmed39 U.vm ∧ U.heap = h0) (fun _ _ _ _ _ => True) (fun _ U o U' => ∃ v L, o = .returned v ∧ Q_pr3 Z jt h0 n0 v U'.heap L ∧ FrameEnd U o U' L ({ frames := 0, cells := 0, slots := 0, locals := 0 } : Room).cells ({ frames := 0, cells := 0, slots := 0, locals := 0 } : Room).slots) := by
  refine MetFree.of_bodySF (plainFor_of_name own_pn_com_example_libsortkey_libsortkey_values_AtomicType) hisR ?_
  intro p e s m args below meth c s₁ Bd hml0 hP hK
  obtain ⟨rfl, hZ, hh⟩ := hP
  have hx := Bd.exec
  have hby := Bd.bytes
  have hlk : meth.locks = false := BodyLoose.notSynchronized Bd
  have hml : c.maxLocals = 3 := hml0
  have hown : s.vm.findClass "com/example/libsortkey/libsortkey/values/AtomicType" = some m.cls := findClass_of_methodNamed Bd.named
  have hnm := (name_of_methodNamed Bd.named Bd.method).1
  have X0 : Stand p l e ({ frames := 0, cells := 0, slots := 0, locals := 0 } : Room) s m #[(.ref r_INTEGER), (.ref t)] below meth c s₁ [] 0 0 := Stand.of_body Bd
  have e0 : s₁.heap = h0 := by rw [← hh, Bd.state]; rfl
  have N0 := Fr.nil n0
  show own_Go p e below (own_K s (Q_pr3 Z jt h0 n0) ({ frames := 0, cells := 0, slots := 0, locals := 0 } : Room).cells ({ frames := 0, cells := 0, slots := 0, locals := 0 } : Room).slots) (s₁.setTop (entryFrame m #[(.ref r_INTEGER), (.ref t)] 3))
  rw [(by first | (simp [entryFrame, mkF, argsToLocals, Value.category]; done) | rfl : entryFrame m #[(.ref r_INTEGER), (.ref t)] 3 = mkF m 0 #[.val (.ref r_INTEGER), .val (.ref t), .unset] [])]
  show own_Go p e below _ (s₁.setTop (mkF m 0 #[.val (.ref r_INTEGER), .val (.ref t), .unset] []))
  refine own_go (fun _ hr => XS.aloadN X0.here hx rfl (hb hby own_d_prog_17_method_10_code_0) rfl rfl (XS.astoreN X0.here hx rfl (hb hby own_d_prog_17_method_10_code_1) rfl rfl (l' := #[.val (.ref r_INTEGER), .val (.ref t), .val (.ref r_INTEGER)]) rfl (XS.aloadN X0.here hx rfl (hb hby own_d_prog_17_method_10_code_2) rfl rfl hr))) ?_
  show own_Go p e below _ (s₁.setTop (mkF m 3 #[.val (.ref r_INTEGER), .val (.ref t), .val (.ref r_INTEGER)] [(.ref r_INTEGER)]))
  refine own_go (fun _ hr => XS.ifnullNo X0.here hx rfl (hb hby own_d_prog_17_method_10_code_3) rfl hr) ?_
  show own_Go p e below _ (s₁.setTop (mkF m 6 #[.val (.ref r_INTEGER), .val (.ref t), .val (.ref r_INTEGER)] []))
  refine own_go (fun _ hr => XS.aloadN X0.here hx rfl (hb hby own_d_prog_17_method_10_code_6) rfl rfl (XS.aloadN X0.here hx rfl (hb hby own_d_prog_17_method_10_code_7) rfl rfl hr)) ?_
  show own_Go p e below _ (s₁.setTop (mkF m 8 #[.val (.ref r_INTEGER), .val (.ref t), .val (.ref r_INTEGER)] [(.ref t), (.ref r_INTEGER)]))
  by_cases c1 : r_INTEGER = t
  · refine own_go (fun _ hr => Jvm.RoadKit.acmp X0 hx rfl rfl rfl (pc0 := 8) (pc' := 11) (same := true) rfl (hb hby own_d_prog_17_method_10_code_8) rfl (decide_eq_true (congrArg Value.ref c1)) (by decide) (by decide) hr) ?_
    show own_Go p e below _ (s₁.setTop (mkF m 11 #[.val (.ref r_INTEGER), .val (.ref t), .val (.ref r_INTEGER)] []))
    refine own_go (fun _ hr => XS.iconst X0.here hx rfl (hb hby own_d_prog_17_method_10_code_11) hr) ?_
    show own_Go p e below _ (s₁.setTop (mkF m 12 #[.val (.ref r_INTEGER), .val (.ref t), .val (.ref r_INTEGER)] [(.int (1 : Int32))]))
    have hq3 : jt = (3 : Int32) := H_INTEGER.mp c1
    exact own_retN X0 hx hlk Bd.returns (t := .boolean) (by simp) (hb hby own_d_prog_17_method_10_code_12) (by decide) (by decide) ⟨(show some (Value.int (1 : Int32)) = some (Value.int (own_p3 jt)) by simp [own_p3, hq3]), N0, e0⟩
  refine own_go (fun _ hr => Jvm.RoadKit.acmp X0 hx rfl rfl rfl (pc0 := 8) (pc' := 13) (same := false) rfl (hb hby own_d_prog_17_method_10_code_8) rfl (decide_eq_false fun q => c1 (Value.ref.inj q)) (by decide) (by decide) hr) ?_
  show own_Go p e below _ (s₁.setTop (mkF m 13 #[.val (.ref r_INTEGER), .val (.ref t), .val (.ref r_INTEGER)] []))
  refine own_go (fun _ hr => XS.aloadN X0.here hx rfl (hb hby own_d_prog_17_method_10_code_13) rfl rfl hr) ?_
  show own_Go p e below _ (s₁.setTop (mkF m 14 #[.val (.ref r_INTEGER), .val (.ref t), .val (.ref r_INTEGER)] [(.ref r_INTEGER)]))
  obtain ⟨T2, X2, e2, st2⟩ := getF X0 hx hZ hown (host := "") (Or.inl (hw _ (own_m 50 rfl))) Via.refl e0 F_INTEGER_promotion (g := (mkF m 14 #[.val (.ref r_INTEGER), .val (.ref t), .val (.ref r_INTEGER)] [(.ref r_INTEGER)])) rfl rfl (hb hby own_d_prog_17_method_10_code_14)
  refine own_go st2 ?_
  show own_Go p e below _ (T2.setTop (mkF m 17 #[.val (.ref r_INTEGER), .val (.ref t), .val (.ref r_INTEGER)] [(.ref r_DECIMAL)]))
  refine own_go (fun _ hr => XS.astoreN X2.here hx rfl (hb hby own_d_prog_17_method_10_code_17) rfl rfl (l' := #[.val (.ref r_INTEGER), .val (.ref t), .val (.ref r_DECIMAL)]) rfl (XS.goto X2.here hx rfl (pc0 := 18) (pc' := 2) rfl (hb hby own_d_prog_17_method_10_code_18) (by decide) (by decide) (XS.aloadN X2.here hx rfl (hb hby own_d_prog_17_method_10_code_2) rfl rfl hr))) ?_
  show own_Go p e below _ (T2.setTop (mkF m 3 #[.val (.ref r_INTEGER), .val (.ref t), .val (.ref r_DECIMAL)] [(.ref r_DECIMAL)]))
  refine own_go (fun _ hr => XS.ifnullNo X2.here hx rfl (hb hby own_d_prog_17_method_10_code_3) rfl hr) ?_
  show own_Go p e below _ (T2.setTop (mkF m 6 #[.val (.ref r_INTEGER), .val (.ref t), .val (.ref r_DECIMAL)] []))
  refine own_go (fun _ hr => XS.aloadN X2.here hx rfl (hb hby own_d_prog_17_method_10_code_6) rfl rfl (XS.aloadN X2.here hx rfl (hb hby own_d_prog_17_method_10_code_7) rfl rfl hr)) ?_
  show own_Go p e below _ (T2.setTop (mkF m 8 #[.val (.ref r_INTEGER), .val (.ref t), .val (.ref r_DECIMAL)] [(.ref t), (.ref r_DECIMAL)]))
  by_cases c3 : r_DECIMAL = t
  · refine own_go (fun _ hr => Jvm.RoadKit.acmp X2 hx rfl rfl rfl (pc0 := 8) (pc' := 11) (same := true) rfl (hb hby own_d_prog_17_method_10_code_8) rfl (decide_eq_true (congrArg Value.ref c3)) (by decide) (by decide) hr) ?_
    show own_Go p e below _ (T2.setTop (mkF m 11 #[.val (.ref r_INTEGER), .val (.ref t), .val (.ref r_DECIMAL)] []))
    refine own_go (fun _ hr => XS.iconst X2.here hx rfl (hb hby own_d_prog_17_method_10_code_11) hr) ?_
    show own_Go p e below _ (T2.setTop (mkF m 12 #[.val (.ref r_INTEGER), .val (.ref t), .val (.ref r_DECIMAL)] [(.int (1 : Int32))]))
    have hq3 : ¬ (jt = (3 : Int32)) := fun q => c1 (H_INTEGER.mpr q)
    have hq2 : jt = (2 : Int32) := H_DECIMAL.mp c3
    exact own_retN X2 hx hlk Bd.returns (t := .boolean) (by simp) (hb hby own_d_prog_17_method_10_code_12) (by decide) (by decide) ⟨(show some (Value.int (1 : Int32)) = some (Value.int (own_p3 jt)) by simp [own_p3, hq3, hq2]), N0, e2⟩
  refine own_go (fun _ hr => Jvm.RoadKit.acmp X2 hx rfl rfl rfl (pc0 := 8) (pc' := 13) (same := false) rfl (hb hby own_d_prog_17_method_10_code_8) rfl (decide_eq_false fun q => c3 (Value.ref.inj q)) (by decide) (by decide) hr) ?_
  show own_Go p e below _ (T2.setTop (mkF m 13 #[.val (.ref r_INTEGER), .val (.ref t), .val (.ref r_DECIMAL)] []))
  refine own_go (fun _ hr => XS.aloadN X2.here hx rfl (hb hby own_d_prog_17_method_10_code_13) rfl rfl hr) ?_
  show own_Go p e below _ (T2.setTop (mkF m 14 #[.val (.ref r_INTEGER), .val (.ref t), .val (.ref r_DECIMAL)] [(.ref r_DECIMAL)]))
  obtain ⟨T4, X4, e4, st4⟩ := getF X2 hx hZ hown (host := "") (Or.inl (hw _ (own_m 50 rfl))) Via.refl e2 F_DECIMAL_promotion (g := (mkF m 14 #[.val (.ref r_INTEGER), .val (.ref t), .val (.ref r_DECIMAL)] [(.ref r_DECIMAL)])) rfl rfl (hb hby own_d_prog_17_method_10_code_14)
  refine own_go st4 ?_
  show own_Go p e below _ (T4.setTop (mkF m 17 #[.val (.ref r_INTEGER), .val (.ref t), .val (.ref r_DECIMAL)] [(.ref r_FLOAT)]))
  refine own_go (fun _ hr => XS.astoreN X4.here hx rfl (hb hby own_d_prog_17_method_10_code_17) rfl rfl (l' := #[.val (.ref r_INTEGER), .val (.ref t), .val (.ref r_FLOAT)]) rfl (XS.goto X4.here hx rfl (pc0 := 18) (pc' := 2) rfl (hb hby own_d_prog_17_method_10_code_18) (by decide) (by decide) (XS.aloadN X4.here hx rfl (hb hby own_d_prog_17_method_10_code_2) rfl rfl hr))) ?_
  show own_Go p e below _ (T4.setTop (mkF m 3 #[.val (.ref r_INTEGER), .val (.ref t), .val (.ref r_FLOAT)] [(.ref r_FLOAT)]))
  refine own_go (fun _ hr => XS.ifnullNo X4.here hx rfl (hb hby own_d_prog_17_method_10_code_3) rfl hr) ?_
  show own_Go p e below _ (T4.setTop (mkF m 6 #[.val (.ref r_INTEGER), .val (.ref t), .val (.ref r_FLOAT)] []))
  refine own_go (fun _ hr => XS.aloadN X4.here hx rfl (hb hby own_d_prog_17_method_10_code_6) rfl rfl (XS.aloadN X4.here hx rfl (hb hby own_d_prog_17_method_10_code_7) rfl rfl hr)) ?_
  show own_Go p e below _ (T4.setTop (mkF m 8 #[.val (.ref r_INTEGER), .val (.ref t), .val (.ref r_FLOAT)] [(.ref t), (.ref r_FLOAT)]))
  by_cases c5 : r_FLOAT = t
  · refine own_go (fun _ hr => Jvm.RoadKit.acmp X4 hx rfl rfl rfl (pc0 := 8) (pc' := 11) (same := true) rfl (hb hby own_d_prog_17_method_10_code_8) rfl (decide_eq_true (congrArg Value.ref c5)) (by decide) (by decide) hr) ?_
    show own_Go p e below _ (T4.setTop (mkF m 11 #[.val (.ref r_INTEGER), .val (.ref t), .val (.ref r_FLOAT)] []))
    refine own_go (fun _ hr => XS.iconst X4.here hx rfl (hb hby own_d_prog_17_method_10_code_11) hr) ?_
    show own_Go p e below _ (T4.setTop (mkF m 12 #[.val (.ref r_INTEGER), .val (.ref t), .val (.ref r_FLOAT)] [(.int (1 : Int32))]))
    have hq3 : ¬ (jt = (3 : Int32)) := fun q => c1 (H_INTEGER.mpr q)
    have hq2 : ¬ (jt = (2 : Int32)) := fun q => c3 (H_DECIMAL.mpr q)
    have hq1 : jt = (1 : Int32) := H_FLOAT.mp c5
    exact own_retN X4 hx hlk Bd.returns (t := .boolean) (by simp) (hb hby own_d_prog_17_method_10_code_12) (by decide) (by decide) ⟨(show some (Value.int (1 : Int32)) = some (Value.int (own_p3 jt)) by simp [own_p3, hq3, hq2, hq1]), N0, e4⟩
  refine own_go (fun _ hr => Jvm.RoadKit.acmp X4 hx rfl rfl rfl (pc0 := 8) (pc' := 13) (same := false) rfl (hb hby own_d_prog_17_method_10_code_8) rfl (decide_eq_false fun q => c5 (Value.ref.inj q)) (by decide) (by decide) hr) ?_
  show own_Go p e below _ (T4.setTop (mkF m 13 #[.val (.ref r_INTEGER), .val (.ref t), .val (.ref r_FLOAT)] []))
  refine own_go (fun _ hr => XS.aloadN X4.here hx rfl (hb hby own_d_prog_17_method_10_code_13) rfl rfl hr) ?_
  show own_Go p e below _ (T4.setTop (mkF m 14 #[.val (.ref r_INTEGER), .val (.ref t), .val (.ref r_FLOAT)] [(.ref r_FLOAT)]))
  obtain ⟨T6, X6, e6, st6⟩ := getF X4 hx hZ hown (host := "") (Or.inl (hw _ (own_m 50 rfl))) Via.refl e4 F_FLOAT_promotion (g := (mkF m 14 #[.val (.ref r_INTEGER), .val (.ref t), .val (.ref r_FLOAT)] [(.ref r_FLOAT)])) rfl rfl (hb hby own_d_prog_17_method_10_code_14)
  refine own_go st6 ?_
  show own_Go p e below _ (T6.setTop (mkF m 17 #[.val (.ref r_INTEGER), .val (.ref t), .val (.ref r_FLOAT)] [(.ref r_DOUBLE)]))
  refine own_go (fun _ hr => XS.astoreN X6.here hx rfl (hb hby own_d_prog_17_method_10_code_17) rfl rfl (l' := #[.val (.ref r_INTEGER), .val (.ref t), .val (.ref r_DOUBLE)]) rfl (XS.goto X6.here hx rfl (pc0 := 18) (pc' := 2) rfl (hb hby own_d_prog_17_method_10_code_18) (by decide) (by decide) (XS.aloadN X6.here hx rfl (hb hby own_d_prog_17_method_10_code_2) rfl rfl hr))) ?_
  show own_Go p e below _ (T6.setTop (mkF m 3 #[.val (.ref r_INTEGER), .val (.ref t), .val (.ref r_DOUBLE)] [(.ref r_DOUBLE)]))
  refine own_go (fun _ hr => XS.ifnullNo X6.here hx rfl (hb hby own_d_prog_17_method_10_code_3) rfl hr) ?_
  show own_Go p e below _ (T6.setTop (mkF m 6 #[.val (.ref r_INTEGER), .val (.ref t), .val (.ref r_DOUBLE)] []))
  refine own_go (fun _ hr => XS.aloadN X6.here hx rfl (hb hby own_d_prog_17_method_10_code_6) rfl rfl (XS.aloadN X6.here hx rfl (hb hby own_d_prog_17_method_10_code_7) rfl rfl hr)) ?_
  show own_Go p e below _ (T6.setTop (mkF m 8 #[.val (.ref r_INTEGER), .val (.ref t), .val (.ref r_DOUBLE)] [(.ref t), (.ref r_DOUBLE)]))
  by_cases c7 : r_DOUBLE = t
  · refine own_go (fun _ hr => Jvm.RoadKit.acmp X6 hx rfl rfl rfl (pc0 := 8) (pc' := 11) (same := true) rfl (hb hby own_d_prog_17_method_10_code_8) rfl (decide_eq_true (congrArg Value.ref c7)) (by decide) (by decide) hr) ?_
    show own_Go p e below _ (T6.setTop (mkF m 11 #[.val (.ref r_INTEGER), .val (.ref t), .val (.ref r_DOUBLE)] []))
    refine own_go (fun _ hr => XS.iconst X6.here hx rfl (hb hby own_d_prog_17_method_10_code_11) hr) ?_
    show own_Go p e below _ (T6.setTop (mkF m 12 #[.val (.ref r_INTEGER), .val (.ref t), .val (.ref r_DOUBLE)] [(.int (1 : Int32))]))
    have hq3 : ¬ (jt = (3 : Int32)) := fun q => c1 (H_INTEGER.mpr q)
    have hq2 : ¬ (jt = (2 : Int32)) := fun q => c3 (H_DECIMAL.mpr q)
    have hq1 : ¬ (jt = (1 : Int32)) := fun q => c5 (H_FLOAT.mpr q)
    have hq0 : jt = (0 : Int32) := H_DOUBLE.mp c7
    exact own_retN X6 hx hlk Bd.returns (t := .boolean) (by simp) (hb hby own_d_prog_17_method_10_code_12) (by decide) (by decide) ⟨(show some (Value.int (1 : Int32)) = some (Value.int (own_p3 jt)) by simp [own_p3, hq3, hq2, hq1, hq0]), N0, e6⟩
  refine own_go (fun _ hr => Jvm.RoadKit.acmp X6 hx rfl rfl rfl (pc0 := 8) (pc' := 13) (same := false) rfl (hb hby own_d_prog_17_method_10_code_8) rfl (decide_eq_false fun q => c7 (Value.ref.inj q)) (by decide) (by decide) hr) ?_
  show own_Go p e below _ (T6.setTop (mkF m 13 #[.val (.ref r_INTEGER), .val (.ref t), .val (.ref r_DOUBLE)] []))
  refine own_go (fun _ hr => XS.aloadN X6.here hx rfl (hb hby own_d_prog_17_method_10_code_13) rfl rfl hr) ?_
  show own_Go p e below _ (T6.setTop (mkF m 14 #[.val (.ref r_INTEGER), .val (.ref t), .val (.ref r_DOUBLE)] [(.ref r_DOUBLE)]))
  obtain ⟨T8, X8, e8, st8⟩ := getF X6 hx hZ hown (host := "") (Or.inl (hw _ (own_m 50 rfl))) Via.refl e6 F_DOUBLE_promotion (g := (mkF m 14 #[.val (.ref r_INTEGER), .val (.ref t), .val (.ref r_DOUBLE)] [(.ref r_DOUBLE)])) rfl rfl (hb hby own_d_prog_17_method_10_code_14)
  refine own_go st8 ?_
  show own_Go p e below _ (T8.setTop (mkF m 17 #[.val (.ref r_INTEGER), .val (.ref t), .val (.ref r_DOUBLE)] [.null]))
  refine own_go (fun _ hr => XS.astoreN X8.here hx rfl (hb hby own_d_prog_17_method_10_code_17) rfl rfl (l' := #[.val (.ref r_INTEGER), .val (.ref t), .val .null]) rfl (XS.goto X8.here hx rfl (pc0 := 18) (pc' := 2) rfl (hb hby own_d_prog_17_method_10_code_18) (by decide) (by decide) (XS.aloadN X8.here hx rfl (hb hby own_d_prog_17_method_10_code_2) rfl rfl hr))) ?_
  show own_Go p e below _ (T8.setTop (mkF m 3 #[.val (.ref r_INTEGER), .val (.ref t), .val .null] [.null]))
  refine own_go (fun _ hr => XS.ifnullYes X8.here hx rfl (pc0 := 3) (pc' := 21) rfl (hb hby own_d_prog_17_method_10_code_3) rfl (by decide) (by decide) hr) ?_
  show own_Go p e below _ (T8.setTop (mkF m 21 #[.val (.ref r_INTEGER), .val (.ref t), .val .null] []))
  refine own_go (fun _ hr => XS.iconst X8.here hx rfl (hb hby own_d_prog_17_method_10_code_21) hr) ?_
  show own_Go p e below _ (T8.setTop (mkF m 22 #[.val (.ref r_INTEGER), .val (.ref t), .val .null] [(.int (0 : Int32))]))
  have hq3 : ¬ (jt = (3 : Int32)) := fun q => c1 (H_INTEGER.mpr q)
  have hq2 : ¬ (jt = (2 : Int32)) := fun q => c3 (H_DECIMAL.mpr q)
  have hq1 : ¬ (jt = (1 : Int32)) := fun q => c5 (H_FLOAT.mpr q)
  have hq0 : ¬ (jt = (0 : Int32)) := fun q => c7 (H_DOUBLE.mpr q)
  exact own_retN X8 hx hlk Bd.returns (t := .boolean) (by simp) (hb hby own_d_prog_17_method_10_code_22) (by decide) (by decide) ⟨(show some (Value.int (0 : Int32)) = some (Value.int (own_p3 jt)) by simp [own_p3, hq3, hq2, hq1, hq0]), N0, e8⟩
def own_p4 (j : Int32) : Int32 := if j = 4 then 1 else 0
def Q_pr4 (Z : State) (jt : Int32) (h0 : Heap) (n0 : Nat) (v : Option Value) (h : Heap) (L : List Loc) : Prop := v = some (.int (own_p4 jt)) ∧ Fr n0 L ∧ h = h0
set_option maxRecDepth 65536 in
set_option maxHeartbeats 40000000 in
theorem rm_pr4 (l : Launch) (Z : State) (a0 : Array Value) (hw : ∀ d ∈ tables_1, d.before a0 Z = true) (ws : List Jvm.Cond) (r_STRING : Addr) (t : Addr) (jt : Int32) (h0 : Heap) (n0 : Nat) (Z0 : n0 ≤ h0.size) (F_STRING_promotion : Fld Z h0 r_STRING "com/example/libsortkey/libsortkey/values/AtomicType" "promotion" "Lcom/example/libsortkey/libsortkey/values/AtomicType;" .null) (H_STRING : r_STRING = t ↔ jt = (4 : Int32)) :
    MetFree l (⟨"com/example/libsortkey/libsortkey/values/AtomicType", "promotesTo", "(Lcom/example/libsortkey/libsortkey/values/AtomicType;)Z"⟩ : MethodName) (head1 (Jvm.Cond.code (⟨"com/example/libsortkey/libsortkey/values/AtomicType", "promotesTo", "(Lcom/example/libsortkey/libsortkey/values/AtomicType;)Z"⟩ : MethodName) prog_17_method_10_code 3 (some .boolean) :: ws) ({ frames := 0, cells := 0, slots := 0, locals := 0 } : Room)) (fun aA U => aA = #[(.ref r_STRING), (.ref t)] ∧ Z.Warmed39 U.vm ∧ U.heap = h0) (fun _ _ _ _ _ => True) (fun _ U o U' => ∃ v L, o = .returned v ∧ Q_pr4 Z jt h0 n0 v U'.heap L ∧ FrameEnd U o U' L ({ frames := 0, cells := 0, slots := 0, locals := 0 } : Room).cells ({ frames := 0, cells := 0, slots := 0, locals := 0 } : Room).slots) := by
  refine MetFree.of_bodySF (plainFor_of_name own_pn_com_example_libsortkey_libsortkey_values_AtomicType) hisR ?_
  intro p e s m args below meth c s₁ Bd hml0 hP hK
  obtain ⟨rfl, hZ, hh⟩ := hP
  have hx := Bd.exec
  have hby := Bd.bytes
  have hlk : meth.locks = false := BodyLoose.notSynchronized Bd
  have hml : c.maxLocals = 3 := hml0
  have hown : s.vm.findClass "com/example/libsortkey/libsortkey/values/AtomicType" = some m.cls := findClass_of_methodNamed Bd.named
  have hnm := (name_of_methodNamed Bd.named Bd.method).1
  have X0 : Stand p l e ({ frames := 0, cells := 0, slots := 0, locals := 0 } : Room) s m #[(.ref r_STRING), (.ref t)] below meth c s₁ [] 0 0 := Stand.of_body Bd
  have e0 : s₁.heap = h0 := by rw [← hh, Bd.state]; rfl
  have N0 := Fr.nil n0
  show own_Go p e below (own_K s (Q_pr4 Z jt h0 n0) ({ frames := 0, cells := 0, slots := 0, locals := 0 } : Room).cells ({ frames := 0, cells := 0, slots := 0, locals := 0 } : Room).slots) (s₁.setTop (entryFrame m #[(.ref r_STRING), (.ref t)] 3))
  rw [(by first | (simp [entryFrame, mkF, argsToLocals, Value.category]; done) | rfl : entryFrame m #[(.ref r_STRING), (.ref t)] 3 = mkF m 0 #[.val (.ref r_STRING), .val (.ref t), .unset] [])]
  show own_Go p e below _ (s₁.setTop (mkF m 0 #[.val (.ref r_STRING), .val (.ref t), .unset] []))
  refine own_go (fun _ hr => XS.aloadN X0.here hx rfl (hb hby own_d_prog_17_method_10_code_0) rfl rfl (XS.astoreN X0.here hx rfl (hb hby own_d_prog_17_method_10_code_1) rfl rfl (l' := #[.val (.ref r_STRING), .val (.ref t), .val (.ref r_STRING)]) rfl (XS.aloadN X0.here hx rfl (hb hby own_d_prog_17_method_10_code_2) rfl rfl hr))) ?_
  show own_Go p e below _ (s₁.setTop (mkF m 3 #[.val (.ref r_STRING), .val (.ref t), .val (.ref r_STRING)] [(.ref r_STRING)]))
  refine own_go (fun _ hr => XS.ifnullNo X0.here hx rfl (hb hby own_d_prog_17_method_10_code_3) rfl hr) ?_
  show own_Go p e below _ (s₁.setTop (mkF m 6 #[.val (.ref r_STRING), .val (.ref t), .val (.ref r_STRING)] []))
  refine own_go (fun _ hr => XS.aloadN X0.here hx rfl (hb hby own_d_prog_17_method_10_code_6) rfl rfl (XS.aloadN X0.here hx rfl (hb hby own_d_prog_17_method_10_code_7) rfl rfl hr)) ?_
  show own_Go p e below _ (s₁.setTop (mkF m 8 #[.val (.ref r_STRING), .val (.ref t), .val (.ref r_STRING)] [(.ref t), (.ref r_STRING)]))
  by_cases c1 : r_STRING = t
  · refine own_go (fun _ hr => Jvm.RoadKit.acmp X0 hx rfl rfl rfl (pc0 := 8) (pc' := 11) (same := true) rfl (hb hby own_d_prog_17_method_10_code_8) rfl (decide_eq_true (congrArg Value.ref c1)) (by decide) (by decide) hr) ?_
    show own_Go p e below _ (s₁.setTop (mkF m 11 #[.val (.ref r_STRING), .val (.ref t), .val (.ref r_STRING)] []))
    refine own_go (fun _ hr => XS.iconst X0.here hx rfl (hb hby own_d_prog_17_method_10_code_11) hr) ?_
    show own_Go p e below _ (s₁.setTop (mkF m 12 #[.val (.ref r_STRING), .val (.ref t), .val (.ref r_STRING)] [(.int (1 : Int32))]))
    have hq4 : jt = (4 : Int32) := H_STRING.mp c1
    exact own_retN X0 hx hlk Bd.returns (t := .boolean) (by simp) (hb hby own_d_prog_17_method_10_code_12) (by decide) (by decide) ⟨(show some (Value.int (1 : Int32)) = some (Value.int (own_p4 jt)) by simp [own_p4, hq4]), N0, e0⟩
  refine own_go (fun _ hr => Jvm.RoadKit.acmp X0 hx rfl rfl rfl (pc0 := 8) (pc' := 13) (same := false) rfl (hb hby own_d_prog_17_method_10_code_8) rfl (decide_eq_false fun q => c1 (Value.ref.inj q)) (by decide) (by decide) hr) ?_
  show own_Go p e below _ (s₁.setTop (mkF m 13 #[.val (.ref r_STRING), .val (.ref t), .val (.ref r_STRING)] []))
  refine own_go (fun _ hr => XS.aloadN X0.here hx rfl (hb hby own_d_prog_17_method_10_code_13) rfl rfl hr) ?_
  show own_Go p e below _ (s₁.setTop (mkF m 14 #[.val (.ref r_STRING), .val (.ref t), .val (.ref r_STRING)] [(.ref r_STRING)]))
  obtain ⟨T2, X2, e2, st2⟩ := getF X0 hx hZ hown (host := "") (Or.inl (hw _ (own_m 50 rfl))) Via.refl e0 F_STRING_promotion (g := (mkF m 14 #[.val (.ref r_STRING), .val (.ref t), .val (.ref r_STRING)] [(.ref r_STRING)])) rfl rfl (hb hby own_d_prog_17_method_10_code_14)
  refine own_go st2 ?_
  show own_Go p e below _ (T2.setTop (mkF m 17 #[.val (.ref r_STRING), .val (.ref t), .val (.ref r_STRING)] [.null]))
  refine own_go (fun _ hr => XS.astoreN X2.here hx rfl (hb hby own_d_prog_17_method_10_code_17) rfl rfl (l' := #[.val (.ref r_STRING), .val (.ref t), .val .null]) rfl (XS.goto X2.here hx rfl (pc0 := 18) (pc' := 2) rfl (hb hby own_d_prog_17_method_10_code_18) (by decide) (by decide) (XS.aloadN X2.here hx rfl (hb hby own_d_prog_17_method_10_code_2) rfl rfl hr))) ?_
  show own_Go p e below _ (T2.setTop (mkF m 3 #[.val (.ref r_STRING), .val (.ref t), .val .null] [.null]))
  refine own_go (fun _ hr => XS.ifnullYes X2.here hx rfl (pc0 := 3) (pc' := 21) rfl (hb hby own_d_prog_17_method_10_code_3) rfl (by decide) (by decide) hr) ?_
  show own_Go p e below _ (T2.setTop (mkF m 21 #[.val (.ref r_STRING), .val (.ref t), .val .null] []))
  refine own_go (fun _ hr => XS.iconst X2.here hx rfl (hb hby own_d_prog_17_method_10_code_21) hr) ?_
  show own_Go p e below _ (T2.setTop (mkF m 22 #[.val (.ref r_STRING), .val (.ref t), .val .null] [(.int (0 : Int32))]))
  have hq4 : ¬ (jt = (4 : Int32)) := fun q => c1 (H_STRING.mpr q)
  exact own_retN X2 hx hlk Bd.returns (t := .boolean) (by simp) (hb hby own_d_prog_17_method_10_code_22) (by decide) (by decide) ⟨(show some (Value.int (0 : Int32)) = some (Value.int (own_p4 jt)) by simp [own_p4, hq4]), N0, e2⟩
def own_p5 (j : Int32) : Int32 := if j = 5 then 1 else if j = 4 then 1 else 0
def Q_pr5 (Z : State) (jt : Int32) (h0 : Heap) (n0 : Nat) (v : Option Value) (h : Heap) (L : List Loc) : Prop := v = some (.int (own_p5 jt)) ∧ Fr n0 L ∧ h = h0
set_option maxRecDepth 65536 in
set_option maxHeartbeats 40000000 in
theorem rm_pr5 (l : Launch) (Z : State) (a0 : Array Value) (hw : ∀ d ∈ tables_1, d.before a0 Z = true) (ws : List Jvm.Cond) (r_ANY_URI : Addr) (r_STRING : Addr) (t : Addr) (jt : Int32) (h0 : Heap) (n0 : Nat) (Z0 : n0 ≤ h0.size) (F_ANY_URI_promotion : Fld Z h0 r_ANY_URI "com/example/libsortkey/libsortkey/values/AtomicType" "promotion" "Lcom/example/libsortkey/libsortkey/values/AtomicType;" (.ref r_STRING)) (F_STRING_promotion : Fld Z h0 r_STRING "com/example/libsortkey/libsortkey/values/AtomicType" "promotion" "Lcom/example/libsortkey/libsortkey/values/AtomicType;" .null) (H_ANY_URI : r_ANY_URI = t ↔ jt = (5 : Int32)) (H_STRING : r_STRING = t ↔ jt = (4 : Int32)) :
    MetFree l (⟨"com/example/libsortkey/libsortkey/values/AtomicType", "promotesTo", "(Lcom/example/libsortkey/libsortkey/values/AtomicType;)Z"⟩ : MethodName) (head1 (Jvm.Cond.code (⟨"com/example/libsortkey/libsortkey/values/AtomicType", "promotesTo", "(Lcom/example/libsortkey/libsortkey/values/AtomicType;)Z"⟩ : MethodName) prog_17_method_10_code 3 (some .boolean) :: ws) ({ frames := 0, cells := 0, slots := 0, locals := 0 } : Room)) (fun aA U => aA = #[(.ref r_ANY_URI), (.ref t)] ∧ Z.Warmed39 U.vm ∧ U.heap = h0) (fun _ _ _ _ _ => True) (fun _ U o U' => ∃ v L, o = .returned v ∧ Q_pr5 Z jt h0 n0 v U'.heap L ∧ FrameEnd U o U' L ({ frames := 0, cells := 0, slots := 0, locals := 0 } : Room).cells ({ frames := 0, cells := 0, slots := 0, locals := 0 } : Room).slots) := by
  refine MetFree.of_bodySF (plainFor_of_name own_pn_com_example_libsortkey_libsortkey_values_AtomicType) hisR ?_
  intro p e s m args below meth c s₁ Bd hml0 hP hK
  obtain ⟨rfl, hZ, hh⟩ := hP
  have hx := Bd.exec
  have hby := Bd.bytes
  have hlk : meth.locks = false := BodyLoose.notSynchronized Bd
  have hml : c.maxLocals = 3 := hml0
  have hown : s.vm.findClass "com/example/libsortkey/libsortkey/values/AtomicType" = some m.cls := findClass_of_methodNamed Bd.named
  have hnm := (name_of_methodNamed Bd.named Bd.method).1
  have X0 : Stand p l e ({ frames := 0, cells := 0, slots := 0, locals := 0 } : Room) s m #[(.ref r_ANY_URI), (.ref t)] below meth c s₁ [] 0 0 := Stand.of_body Bd
  have e0 : s₁.heap = h0 := by rw [← hh, Bd.state]; rfl
  have N0 := Fr.nil n0
  show own_Go p e below (own_K s (Q_pr5 Z jt h0 n0) ({ frames := 0, cells := 0, slots := 0, locals := 0 } : Room).cells ({ frames := 0, cells := 0, slots := 0, locals := 0 } : Room).slots) (s₁.setTop (entryFrame m #[(.ref r_ANY_URI), (.ref t)] 3))
  rw [(by first | (simp [entryFrame, mkF, argsToLocals, Value.category]; done) | rfl : entryFrame m #[(.ref r_ANY_URI), (.ref t)] 3 = mkF m 0 #[.val (.ref r_ANY_URI), .val (.ref t), .unset] [])]
  show own_Go p e below _ (s₁.setTop (mkF m 0 #[.val (.ref r_ANY_URI), .val (.ref t), .unset] []))
  refine own_go (fun _ hr => XS.aloadN X0.here hx rfl (hb hby own_d_prog_17_method_10_code_0) rfl rfl (XS.astoreN X0.here hx rfl (hb hby own_d_prog_17_method_10_code_1) rfl rfl (l' := #[.val (.ref r_ANY_URI), .val (.ref t), .val (.ref r_ANY_URI)]) rfl (XS.aloadN X0.here hx rfl (hb hby own_d_prog_17_method_10_code_2) rfl rfl hr))) ?_
  show own_Go p e below _ (s₁.setTop (mkF m 3 #[.val (.ref r_ANY_URI), .val (.ref t), .val (.ref r_ANY_URI)] [(.ref r_ANY_URI)]))
  refine own_go (fun _ hr => XS.ifnullNo X0.here hx rfl (hb hby own_d_prog_17_method_10_code_3) rfl hr) ?_
  show own_Go p e below _ (s₁.setTop (mkF m 6 #[.val (.ref r_ANY_URI), .val (.ref t), .val (.ref r_ANY_URI)] []))
  refine own_go (fun _ hr => XS.aloadN X0.here hx rfl (hb hby own_d_prog_17_method_10_code_6) rfl rfl (XS.aloadN X0.here hx rfl (hb hby own_d_prog_17_method_10_code_7) rfl rfl hr)) ?_
  show own_Go p e below _ (s₁.setTop (mkF m 8 #[.val (.ref r_ANY_URI), .val (.ref t), .val (.ref r_ANY_URI)] [(.ref t), (.ref r_ANY_URI)]))
  by_cases c1 : r_ANY_URI = t
  · refine own_go (fun _ hr => Jvm.RoadKit.acmp X0 hx rfl rfl rfl (pc0 := 8) (pc' := 11) (same := true) rfl (hb hby own_d_prog_17_method_10_code_8) rfl (decide_eq_true (congrArg Value.ref c1)) (by decide) (by decide) hr) ?_
    show own_Go p e below _ (s₁.setTop (mkF m 11 #[.val (.ref r_ANY_URI), .val (.ref t), .val (.ref r_ANY_URI)] []))
    refine own_go (fun _ hr => XS.iconst X0.here hx rfl (hb hby own_d_prog_17_method_10_code_11) hr) ?_
    show own_Go p e below _ (s₁.setTop (mkF m 12 #[.val (.ref r_ANY_URI), .val (.ref t), .val (.ref r_ANY_URI)] [(.int (1 : Int32))]))
    have hq5 : jt = (5 : Int32) := H_ANY_URI.mp c1
    exact own_retN X0 hx hlk Bd.returns (t := .boolean) (by simp) (hb hby own_d_prog_17_method_10_code_12) (by decide) (by decide) ⟨(show some (Value.int (1 : Int32)) = some (Value.int (own_p5 jt)) by simp [own_p5, hq5]), N0, e0⟩
  refine own_go (fun _ hr => Jvm.RoadKit.acmp X0 hx rfl rfl rfl (pc0 := 8) (pc' := 13) (same := false) rfl (hb hby own_d_prog_17_method_10_code_8) rfl (decide_eq_false fun q => c1 (Value.ref.inj q)) (by decide) (by decide) hr) ?_
  show own_Go p e below _ (s₁.setTop (mkF m 13 #[.val (.ref r_ANY_URI), .val (.ref t), .val (.ref r_ANY_URI)] []))
  refine own_go (fun _ hr => XS.aloadN X0.here hx rfl (hb hby own_d_prog_17_method_10_code_13) rfl rfl hr) ?_
  show own_Go p e below _ (s₁.setTop (mkF m 14 #[.val (.ref r_ANY_URI), .val (.ref t), .val (.ref r_ANY_URI)] [(.ref r_ANY_URI)]))
  obtain ⟨T2, X2, e2, st2⟩ := getF X0 hx hZ hown (host := "") (Or.inl (hw _ (own_m 50 rfl))) Via.refl e0 F_ANY_URI_promotion (g := (mkF m 14 #[.val (.ref r_ANY_URI), .val (.ref t), .val (.ref r_ANY_URI)] [(.ref r_ANY_URI)])) rfl rfl (hb hby own_d_prog_17_method_10_code_14)
  refine own_go st2 ?_
  show own_Go p e below _ (T2.setTop (mkF m 17 #[.val (.ref r_ANY_URI), .val (.ref t), .val (.ref r_ANY_URI)] [(.ref r_STRING)]))
  refine own_go (fun _ hr => XS.astoreN X2.here hx rfl (hb hby own_d_prog_17_method_10_code_17) rfl rfl (l' := #[.val (.ref r_ANY_URI), .val (.ref t), .val (.ref r_STRING)]) rfl (XS.goto X2.here hx rfl (pc0 := 18) (pc' := 2) rfl (hb hby own_d_prog_17_method_10_code_18) (by decide) (by decide) (XS.aloadN X2.here hx rfl (hb hby own_d_prog_17_method_10_code_2) rfl rfl hr))) ?_
  show own_Go p e below _ (T2.setTop (mkF m 3 #[.val (.ref r_ANY_URI), .val (.ref t), .val (.ref r_STRING)] [(.ref r_STRING)]))
  refine own_go (fun _ hr => XS.ifnullNo X2.here hx rfl (hb hby own_d_prog_17_method_10_code_3) rfl hr) ?_
  show own_Go p e below _ (T2.setTop (mkF m 6 #[.val (.ref r_ANY_URI), .val (.ref t), .val (.ref r_STRING)] []))
  refine own_go (fun _ hr => XS.aloadN X2.here hx rfl (hb hby own_d_prog_17_method_10_code_6) rfl rfl (XS.aloadN X2.here hx rfl (hb hby own_d_prog_17_method_10_code_7) rfl rfl hr)) ?_
  show own_Go p e below _ (T2.setTop (mkF m 8 #[.val (.ref r_ANY_URI), .val (.ref t), .val (.ref r_STRING)] [(.ref t), (.ref r_STRING)]))
  by_cases c3 : r_STRING = t
  · refine own_go (fun _ hr => Jvm.RoadKit.acmp X2 hx rfl rfl rfl (pc0 := 8) (pc' := 11) (same := true) rfl (hb hby own_d_prog_17_method_10_code_8) rfl (decide_eq_true (congrArg Value.ref c3)) (by decide) (by decide) hr) ?_
    show own_Go p e below _ (T2.setTop (mkF m 11 #[.val (.ref r_ANY_URI), .val (.ref t), .val (.ref r_STRING)] []))
    refine own_go (fun _ hr => XS.iconst X2.here hx rfl (hb hby own_d_prog_17_method_10_code_11) hr) ?_
    show own_Go p e below _ (T2.setTop (mkF m 12 #[.val (.ref r_ANY_URI), .val (.ref t), .val (.ref r_STRING)] [(.int (1 : Int32))]))
    have hq5 : ¬ (jt = (5 : Int32)) := fun q => c1 (H_ANY_URI.mpr q)
    have hq4 : jt = (4 : Int32) := H_STRING.mp c3
    exact own_retN X2 hx hlk Bd.returns (t := .boolean) (by simp) (hb hby own_d_prog_17_method_10_code_12) (by decide) (by decide) ⟨(show some (Value.int (1 : Int32)) = some (Value.int (own_p5 jt)) by simp [own_p5, hq5, hq4]), N0, e2⟩
  refine own_go (fun _ hr => Jvm.RoadKit.acmp X2 hx rfl rfl rfl (pc0 := 8) (pc' := 13) (same := false) rfl (hb hby own_d_prog_17_method_10_code_8) rfl (decide_eq_false fun q => c3 (Value.ref.inj q)) (by decide) (by decide) hr) ?_
  show own_Go p e below _ (T2.setTop (mkF m 13 #[.val (.ref r_ANY_URI), .val (.ref t), .val (.ref r_STRING)] []))
  refine own_go (fun _ hr => XS.aloadN X2.here hx rfl (hb hby own_d_prog_17_method_10_code_13) rfl rfl hr) ?_
  show own_Go p e below _ (T2.setTop (mkF m 14 #[.val (.ref r_ANY_URI), .val (.ref t), .val (.ref r_STRING)] [(.ref r_STRING)]))
  obtain ⟨T4, X4, e4, st4⟩ := getF X2 hx hZ hown (host := "") (Or.inl (hw _ (own_m 50 rfl))) Via.refl e2 F_STRING_promotion (g := (mkF m 14 #[.val (.ref r_ANY_URI), .val (.ref t), .val (.ref r_STRING)] [(.ref r_STRING)])) rfl rfl (hb hby own_d_prog_17_method_10_code_14)
  refine own_go st4 ?_
  show own_Go p e below _ (T4.setTop (mkF m 17 #[.val (.ref r_ANY_URI), .val (.ref t), .val (.ref r_STRING)] [.null]))
  refine own_go (fun _ hr => XS.astoreN X4.here hx rfl (hb hby own_d_prog_17_method_10_code_17) rfl rfl (l' := #[.val (.ref r_ANY_URI), .val (.ref t), .val .null]) rfl (XS.goto X4.here hx rfl (pc0 := 18) (pc' := 2) rfl (hb hby own_d_prog_17_method_10_code_18) (by decide) (by decide) (XS.aloadN X4.here hx rfl (hb hby own_d_prog_17_method_10_code_2) rfl rfl hr))) ?_
  show own_Go p e below _ (T4.setTop (mkF m 3 #[.val (.ref r_ANY_URI), .val (.ref t), .val .null] [.null]))
  refine own_go (fun _ hr => XS.ifnullYes X4.here hx rfl (pc0 := 3) (pc' := 21) rfl (hb hby own_d_prog_17_method_10_code_3) rfl (by decide) (by decide) hr) ?_
  show own_Go p e below _ (T4.setTop (mkF m 21 #[.val (.ref r_ANY_URI), .val (.ref t), .val .null] []))
  refine own_go (fun _ hr => XS.iconst X4.here hx rfl (hb hby own_d_prog_17_method_10_code_21) hr) ?_
  show own_Go p e below _ (T4.setTop (mkF m 22 #[.val (.ref r_ANY_URI), .val (.ref t), .val .null] [(.int (0 : Int32))]))
  have hq5 : ¬ (jt = (5 : Int32)) := fun q => c1 (H_ANY_URI.mpr q)
  have hq4 : ¬ (jt = (4 : Int32)) := fun q => c3 (H_STRING.mpr q)
  exact own_retN X4 hx hlk Bd.returns (t := .boolean) (by simp) (hb hby own_d_prog_17_method_10_code_22) (by decide) (by decide) ⟨(show some (Value.int (0 : Int32)) = some (Value.int (own_p5 jt)) by simp [own_p5, hq5, hq4]), N0, e4⟩
def own_p6 (j : Int32) : Int32 := if j = 6 then 1 else if j = 4 then 1 else 0
def Q_pr6 (Z : State) (jt : Int32) (h0 : Heap) (n0 : Nat) (v : Option Value) (h : Heap) (L : List Loc) : Prop := v = some (.int (own_p6 jt)) ∧ Fr n0 L ∧ h = h0
set_option maxRecDepth 65536 in
set_option maxHeartbeats 40000000 in
theorem rm_pr6 (l : Launch) (Z : State) (a0 : Array Value) (hw : ∀ d ∈ tables_1, d.before a0 Z = true) (ws : List Jvm.Cond) (r_UNTYPED_ATOMIC : Addr) (r_STRING : Addr) (t : Addr) (jt : Int32) (h0 : Heap) (n0 : Nat) (Z0 : n0 ≤ h0.size) (F_UNTYPED_ATOMIC_promotion : Fld Z h0 r_UNTYPED_ATOMIC "com/example/libsortkey/libsortkey/values/AtomicType" "promotion" "Lcom/example/libsortkey/libsortkey/values/AtomicType;" (.ref r_STRING)) (F_STRING_promotion : Fld Z h0 r_STRING "com/example/libsortkey/libsortkey/values/AtomicType" "promotion" "Lcom/example/libsortkey/libsortkey/values/AtomicType;" .null) (H_UNTYPED_ATOMIC : r_UNTYPED_ATOMIC = t ↔ jt = (6 : Int32)) (H_STRING : r_STRING = t ↔ jt = (4 : Int32)) :
    MetFree l (⟨"com/example/libsortkey/libsortkey/values/AtomicType", "promotesTo", "(Lcom/example/libsortkey/libsortkey/values/AtomicType;)Z"⟩ : MethodName) (head1 (Jvm.Cond.code (⟨"com/example/libsortkey/libsortkey/values/AtomicType", "promotesTo", "(Lcom/example/libsortkey/libsortkey/values/AtomicType;)Z"⟩ : MethodName) prog_17_method_10_code 3 (some .boolean) :: ws) ({ frames := 0, cells := 0, slots := 0, locals := 0 } : Room)) (fun aA U => aA = #[(.ref r_UNTYPED_ATOMIC), (.ref t)] ∧ Z.Warmed39 U.vm ∧ U.heap = h0) (fun _ _ _ _ _ => True) (fun _ U o U' => ∃ v L, o = .returned v ∧ Q_pr6 Z jt h0 n0 v U'.heap L ∧ FrameEnd U o U' L ({ frames := 0, cells := 0, slots := 0, locals := 0 } : Room).cells ({ frames := 0, cells := 0, slots := 0, locals := 0 } : Room).slots) := by
  refine MetFree.of_bodySF (plainFor_of_name own_pn_com_example_libsortkey_libsortkey_values_AtomicType) hisR ?_
  intro p e s m args below meth c s₁ Bd hml0 hP hK
  obtain ⟨rfl, hZ, hh⟩ := hP
  have hx := Bd.exec
  have hby := Bd.bytes
  have hlk : meth.locks = false := BodyLoose.notSynchronized Bd
  have hml : c.maxLocals = 3 := hml0
  have hown : s.vm.findClass "com/example/libsortkey/libsortkey/values/AtomicType" = some m.cls := findClass_of_methodNamed Bd.named
  have hnm := (name_of_methodNamed Bd.named Bd.method).1
  have X0 : Stand p l e ({ frames := 0, cells := 0, slots := 0, locals := 0 } : Room) s m #[(.ref r_UNTYPED_ATOMIC), (.ref t)] below meth c s₁ [] 0 0 := Stand.of_body Bd
  have e0 : s₁.heap = h0 := by rw [← hh, Bd.state]; rfl
  have N0 := Fr.nil n0
  show own_Go p e below (own_K s (Q_pr6 Z jt h0 n0) ({ frames := 0, cells := 0, slots := 0, locals := 0 } : Room).cells ({ frames := 0, cells := 0, slots := 0, locals := 0 } : Room).slots) (s₁.setTop (entryFrame m #[(.ref r_UNTYPED_ATOMIC), (.ref t)] 3))
  rw [(by first | (simp [entryFrame, mkF, argsToLocals, Value.category]; done) | rfl : entryFrame m #[(.ref r_UNTYPED_ATOMIC), (.ref t)] 3 = mkF m 0 #[.val (.ref r_UNTYPED_ATOMIC), .val (.ref t), .unset] [])]
  show own_Go p e below _ (s₁.setTop (mkF m 0 #[.val (.ref r_UNTYPED_ATOMIC), .val (.ref t), .unset] []))
  refine own_go (fun _ hr => XS.aloadN X0.here hx rfl (hb hby own_d_prog_17_method_10_code_0) rfl rfl (XS.astoreN X0.here hx rfl (hb hby own_d_prog_17_method_10_code_1) rfl rfl (l' := #[.val (.ref r_UNTYPED_ATOMIC), .val (.ref t), .val (.ref r_UNTYPED_ATOMIC)]) rfl (XS.aloadN X0.here hx rfl (hb hby own_d_prog_17_method_10_code_2) rfl rfl hr))) ?_
  show own_Go p e below _ (s₁.setTop (mkF m 3 #[.val (.ref r_UNTYPED_ATOMIC), .val (.ref t), .val (.ref r_UNTYPED_ATOMIC)] [(.ref r_UNTYPED_ATOMIC)]))
  refine own_go (fun _ hr => XS.ifnullNo X0.here hx rfl (hb hby own_d_prog_17_method_10_code_3) rfl hr) ?_
  show own_Go p e below _ (s₁.setTop (mkF m 6 #[.val (.ref r_UNTYPED_ATOMIC), .val (.ref t), .val (.ref r_UNTYPED_ATOMIC)] []))
  refine own_go (fun _ hr => XS.aloadN X0.here hx rfl (hb hby own_d_prog_17_method_10_code_6) rfl rfl (XS.aloadN X0.here hx rfl (hb hby own_d_prog_17_method_10_code_7) rfl rfl hr)) ?_
  show own_Go p e below _ (s₁.setTop (mkF m 8 #[.val (.ref r_UNTYPED_ATOMIC), .val (.ref t), .val (.ref r_UNTYPED_ATOMIC)] [(.ref t), (.ref r_UNTYPED_ATOMIC)]))
  by_cases c1 : r_UNTYPED_ATOMIC = t
  · refine own_go (fun _ hr => Jvm.RoadKit.acmp X0 hx rfl rfl rfl (pc0 := 8) (pc' := 11) (same := true) rfl (hb hby own_d_prog_17_method_10_code_8) rfl (decide_eq_true (congrArg Value.ref c1)) (by decide) (by decide) hr) ?_
    show own_Go p e below _ (s₁.setTop (mkF m 11 #[.val (.ref r_UNTYPED_ATOMIC), .val (.ref t), .val (.ref r_UNTYPED_ATOMIC)] []))
    refine own_go (fun _ hr => XS.iconst X0.here hx rfl (hb hby own_d_prog_17_method_10_code_11) hr) ?_
    show own_Go p e below _ (s₁.setTop (mkF m 12 #[.val (.ref r_UNTYPED_ATOMIC), .val (.ref t), .val (.ref r_UNTYPED_ATOMIC)] [(.int (1 : Int32))]))
    have hq6 : jt = (6 : Int32) := H_UNTYPED_ATOMIC.mp c1
    exact own_retN X0 hx hlk Bd.returns (t := .boolean) (by simp) (hb hby own_d_prog_17_method_10_code_12) (by decide) (by decide) ⟨(show some (Value.int (1 : Int32)) = some (Value.int (own_p6 jt)) by simp [own_p6, hq6]), N0, e0⟩
  refine own_go (fun _ hr => Jvm.RoadKit.acmp X0 hx rfl rfl rfl (pc0 := 8) (pc' := 13) (same := false) rfl (hb hby own_d_prog_17_method_10_code_8) rfl (decide_eq_false fun q => c1 (Value.ref.inj q)) (by decide) (by decide) hr) ?_
  show own_Go p e below _ (s₁.setTop (mkF m 13 #[.val (.ref r_UNTYPED_ATOMIC), .val (.ref t), .val (.ref r_UNTYPED_ATOMIC)] []))
  refine own_go (fun _ hr => XS.aloadN X0.here hx rfl (hb hby own_d_prog_17_method_10_code_13) rfl rfl hr) ?_
  show own_Go p e below _ (s₁.setTop (mkF m 14 #[.val (.ref r_UNTYPED_ATOMIC), .val (.ref t), .val (.ref r_UNTYPED_ATOMIC)] [(.ref r_UNTYPED_ATOMIC)]))
  obtain ⟨T2, X2, e2, st2⟩ := getF X0 hx hZ hown (host := "") (Or.inl (hw _ (own_m 50 rfl))) Via.refl e0 F_UNTYPED_ATOMIC_promotion (g := (mkF m 14 #[.val (.ref r_UNTYPED_ATOMIC), .val (.ref t), .val (.ref r_UNTYPED_ATOMIC)] [(.ref r_UNTYPED_ATOMIC)])) rfl rfl (hb hby own_d_prog_17_method_10_code_14)
  refine own_go st2 ?_
  show own_Go p e below _ (T2.setTop (mkF m 17 #[.val (.ref r_UNTYPED_ATOMIC), .val (.ref t), .val (.ref r_UNTYPED_ATOMIC)] [(.ref r_STRING)]))
  refine own_go (fun _ hr => XS.astoreN X2.here hx rfl (hb hby own_d_prog_17_method_10_code_17) rfl rfl (l' := #[.val (.ref r_UNTYPED_ATOMIC), .val (.ref t), .val (.ref r_STRING)]) rfl (XS.goto X2.here hx rfl (pc0 := 18) (pc' := 2) rfl (hb hby own_d_prog_17_method_10_code_18) (by decide) (by decide) (XS.aloadN X2.here hx rfl (hb hby own_d_prog_17_method_10_code_2) rfl rfl hr))) ?_
  show own_Go p e below _ (T2.setTop (mkF m 3 #[.val (.ref r_UNTYPED_ATOMIC), .val (.ref t), .val (.ref r_STRING)] [(.ref r_STRING)]))
  refine own_go (fun _ hr => XS.ifnullNo X2.here hx rfl (hb hby own_d_prog_17_method_10_code_3) rfl hr) ?_
  show own_Go p e below _ (T2.setTop (mkF m 6 #[.val (.ref r_UNTYPED_ATOMIC), .val (.ref t), .val (.ref r_STRING)] []))
  refine own_go (fun _ hr => XS.aloadN X2.here hx rfl (hb hby own_d_prog_17_method_10_code_6) rfl rfl (XS.aloadN X2.here hx rfl (hb hby own_d_prog_17_method_10_code_7) rfl rfl hr)) ?_
  show own_Go p e below _ (T2.setTop (mkF m 8 #[.val (.ref r_UNTYPED_ATOMIC), .val (.ref t), .val (.ref r_STRING)] [(.ref t), (.ref r_STRING)]))
  by_cases c3 : r_STRING = t
  · refine own_go (fun _ hr => Jvm.RoadKit.acmp X2 hx rfl rfl rfl (pc0 := 8) (pc' := 11) (same := true) rfl (hb hby own_d_prog_17_method_10_code_8) rfl (decide_eq_true (congrArg Value.ref c3)) (by decide) (by decide) hr) ?_
    show own_Go p e below _ (T2.setTop (mkF m 11 #[.val (.ref r_UNTYPED_ATOMIC), .val (.ref t), .val (.ref r_STRING)] []))
    refine own_go (fun _ hr => XS.iconst X2.here hx rfl (hb hby own_d_prog_17_method_10_code_11) hr) ?_
    show own_Go p e below _ (T2.setTop (mkF m 12 #[.val (.ref r_UNTYPED_ATOMIC), .val (.ref t), .val (.ref r_STRING)] [(.int (1 : Int32))]))
    have hq6 : ¬ (jt = (6 : Int32)) := fun q => c1 (H_UNTYPED_ATOMIC.mpr q)
    have hq4 : jt = (4 : Int32) := H_STRING.mp c3
    exact own_retN X2 hx hlk Bd.returns (t := .boolean) (by simp) (hb hby own_d_prog_17_method_10_code_12) (by decide) (by decide) ⟨(show some (Value.int (1 : Int32)) = some (Value.int (own_p6 jt)) by simp [own_p6, hq6, hq4]), N0, e2⟩
  refine own_go (fun _ hr => Jvm.RoadKit.acmp X2 hx rfl rfl rfl (pc0 := 8) (pc' := 13) (same := false) rfl (hb hby own_d_prog_17_method_10_code_8) rfl (decide_eq_false fun q => c3 (Value.ref.inj q)) (by decide) (by decide) hr) ?_
  show own_Go p e below _ (T2.setTop (mkF m 13 #[.val (.ref r_UNTYPED_ATOMIC), .val (.ref t), .val (.ref r_STRING)] []))
  refine own_go (fun _ hr => XS.aloadN X2.here hx rfl (hb hby own_d_prog_17_method_10_code_13) rfl rfl hr) ?_
  show own_Go p e below _ (T2.setTop (mkF m 14 #[.val (.ref r_UNTYPED_ATOMIC), .val (.ref t), .val (.ref r_STRING)] [(.ref r_STRING)]))
  obtain ⟨T4, X4, e4, st4⟩ := getF X2 hx hZ hown (host := "") (Or.inl (hw _ (own_m 50 rfl))) Via.refl e2 F_STRING_promotion (g := (mkF m 14 #[.val (.ref r_UNTYPED_ATOMIC), .val (.ref t), .val (.ref r_STRING)] [(.ref r_STRING)])) rfl rfl (hb hby own_d_prog_17_method_10_code_14)
  refine own_go st4 ?_
  show own_Go p e below _ (T4.setTop (mkF m 17 #[.val (.ref r_UNTYPED_ATOMIC), .val (.ref t), .val (.ref r_STRING)] [.null]))
  refine own_go (fun _ hr => XS.astoreN X4.here hx rfl (hb hby own_d_prog_17_method_10_code_17) rfl rfl (l' := #[.val (.ref r_UNTYPED_ATOMIC), .val (.ref t), .val .null]) rfl (XS.goto X4.here hx rfl (pc0 := 18) (pc' := 2) rfl (hb hby own_d_prog_17_method_10_code_18) (by decide) (by decide) (XS.aloadN X4.here hx rfl (hb hby own_d_prog_17_method_10_code_2) rfl rfl hr))) ?_
  show own_Go p e below _ (T4.setTop (mkF m 3 #[.val (.ref r_UNTYPED_ATOMIC), .val (.ref t), .val .null] [.null]))
  refine own_go (fun _ hr => XS.ifnullYes X4.here hx rfl (pc0 := 3) (pc' := 21) rfl (hb hby own_d_prog_17_method_10_code_3) rfl (by decide) (by decide) hr) ?_
  show own_Go p e below _ (T4.setTop (mkF m 21 #[.val (.ref r_UNTYPED_ATOMIC), .val (.ref t), .val .null] []))
  refine own_go (fun _ hr => XS.iconst X4.here hx rfl (hb hby own_d_prog_17_method_10_code_21) hr) ?_
  show own_Go p e below _ (T4.setTop (mkF m 22 #[.val (.ref r_UNTYPED_ATOMIC), .val (.ref t), .val .null] [(.int (0 : Int32))]))
  have hq6 : ¬ (jt = (6 : Int32)) := fun q => c1 (H_UNTYPED_ATOMIC.mpr q)
  have hq4 : ¬ (jt = (4 : Int32)) := fun q => c3 (H_STRING.mpr q)
  exact own_retN X4 hx hlk Bd.returns (t := .boolean) (by simp) (hb hby own_d_prog_17_method_10_code_22) (by decide) (by decide) ⟨(show some (Value.int (0 : Int32)) = some (Value.int (own_p6 jt)) by simp [own_p6, hq6, hq4]), N0, e4⟩
def own_p7 (j : Int32) : Int32 := if j = 7 then 1 else 0
def Q_pr7 (Z : State) (jt : Int32) (h0 : Heap) (n0 : Nat) (v : Option Value) (h : Heap) (L : List Loc) : Prop := v = some (.int (own_p7 jt)) ∧ Fr n0 L ∧ h = h0
set_option maxRecDepth 65536 in
set_option maxHeartbeats 40000000 in
theorem rm_pr7 (l : Launch) (Z : State) (a0 : Array Value) (hw : ∀ d ∈ tables_1, d.before a0 Z = true) (ws : List Jvm.Cond) (r_BOOLEAN : Addr) (t : Addr) (jt : Int32) (h0 : Heap) (n0 : Nat) (Z0 : n0 ≤ h0.size) (F_BOOLEAN_promotion : Fld Z h0 r_BOOLEAN "com/example/libsortkey/libsortkey/values/AtomicType" "promotion" "Lcom/example/libsortkey/libsortkey/values/AtomicType;" .null) (H_BOOLEAN : r_BOOLEAN = t ↔ jt = (7 : Int32)) :
    MetFree l (⟨"com/example/libsortkey/libsortkey/values/AtomicType", "promotesTo", "(Lcom/example/libsortkey/libsortkey/values/AtomicType;)Z"⟩ : MethodName) (head1 (Jvm.Cond.code (⟨"com/example/libsortkey/libsortkey/values/AtomicType", "promotesTo", "(Lcom/example/libsortkey/libsortkey/values/AtomicType;)Z"⟩ : MethodName) prog_17_method_10_code 3 (some .boolean) :: ws) ({ frames := 0, cells := 0, slots := 0, locals := 0 } : Room)) (fun aA U => aA = #[(.ref r_BOOLEAN), (.ref t)] ∧ Z.Warmed39 U.vm ∧ U.heap = h0) (fun _ _ _ _ _ => True) (fun _ U o U' => ∃ v L, o = .returned v ∧ Q_pr7 Z jt h0 n0 v U'.heap L ∧ FrameEnd U o U' L ({ frames := 0, cells := 0, slots := 0, locals := 0 } : Room).cells ({ frames := 0, cells := 0, slots := 0, locals := 0 } : Room).slots) := by
  refine MetFree.of_bodySF (plainFor_of_name own_pn_com_example_libsortkey_libsortkey_values_AtomicType) hisR ?_
  intro p e s m args below meth c s₁ Bd hml0 hP hK
  obtain ⟨rfl, hZ, hh⟩ := hP
  have hx := Bd.exec
  have hby := Bd.bytes
  have hlk : meth.locks = false := BodyLoose.notSynchronized Bd
  have hml : c.maxLocals = 3 := hml0
  have hown : s.vm.findClass "com/example/libsortkey/libsortkey/values/AtomicType" = some m.cls := findClass_of_methodNamed Bd.named
  have hnm := (name_of_methodNamed Bd.named Bd.method).1
  have X0 : Stand p l e ({ frames := 0, cells := 0, slots := 0, locals := 0 } : Room) s m #[(.ref r_BOOLEAN), (.ref t)] below meth c s₁ [] 0 0 := Stand.of_body Bd
  have e0 : s₁.heap = h0 := by rw [← hh, Bd.state]; rfl
  have N0 := Fr.nil n0
  show own_Go p e below (own_K s (Q_pr7 Z jt h0 n0) ({ frames := 0, cells := 0, slots := 0, locals := 0 } : Room).cells ({ frames := 0, cells := 0, slots := 0, locals := 0 } : Room).slots) (s₁.setTop (entryFrame m #[(.ref r_BOOLEAN), (.ref t)] 3))
  rw [(by first | (simp [entryFrame, mkF, argsToLocals, Value.category]; done) | rfl : entryFrame m #[(.ref r_BOOLEAN), (.ref t)] 3 = mkF m 0 #[.val (.ref r_BOOLEAN), .val (.ref t), .unset] [])]
  show own_Go p e below _ (s₁.setTop (mkF m 0 #[.val (.ref r_BOOLEAN), .val (.ref t), .unset] []))
  refine own_go (fun _ hr => XS.aloadN X0.here hx rfl (hb hby own_d_prog_17_method_10_code_0) rfl rfl (XS.astoreN X0.here hx rfl (hb hby own_d_prog_17_method_10_code_1) rfl rfl (l' := #[.val (.ref r_BOOLEAN), .val (.ref t), .val (.ref r_BOOLEAN)]) rfl (XS.aloadN X0.here hx rfl (hb hby own_d_prog_17_method_10_code_2) rfl rfl hr))) ?_
  show own_Go p e below _ (s₁.setTop (mkF m 3 #[.val (.ref r_BOOLEAN), .val (.ref t), .val (.ref r_BOOLEAN)] [(.ref r_BOOLEAN)]))
  refine own_go (fun _ hr => XS.ifnullNo X0.here hx rfl (hb hby own_d_prog_17_method_10_code_3) rfl hr) ?_
  show own_Go p e below _ (s₁.setTop (mkF m 6 #[.val (.ref r_BOOLEAN), .val (.ref t), .val (.ref r_BOOLEAN)] []))
  refine own_go (fun _ hr => XS.aloadN X0.here hx rfl (hb hby own_d_prog_17_method_10_code_6) rfl rfl (XS.aloadN X0.here hx rfl (hb hby own_d_prog_17_method_10_code_7) rfl rfl hr)) ?_
  show own_Go p e below _ (s₁.setTop (mkF m 8 #[.val (.ref r_BOOLEAN), .val (.ref t), .val (.ref r_BOOLEAN)] [(.ref t), (.ref r_BOOLEAN)]))
  by_cases c1 : r_BOOLEAN = t
  · refine own_go (fun _ hr => Jvm.RoadKit.acmp X0 hx rfl rfl rfl (pc0 := 8) (pc' := 11) (same := true) rfl (hb hby own_d_prog_17_method_10_code_8) rfl (decide_eq_true (congrArg Value.ref c1)) (by decide) (by decide) hr) ?_
    show own_Go p e below _ (s₁.setTop (mkF m 11 #[.val (.ref r_BOOLEAN), .val (.ref t), .val (.ref r_BOOLEAN)] []))
    refine own_go (fun _ hr => XS.iconst X0.here hx rfl (hb hby own_d_prog_17_method_10_code_11) hr) ?_
    show own_Go p e below _ (s₁.setTop (mkF m 12 #[.val (.ref r_BOOLEAN), .val (.ref t), .val (.ref r_BOOLEAN)] [(.int (1 : Int32))]))
    have hq7 : jt = (7 : Int32) := H_BOOLEAN.mp c1
    exact own_retN X0 hx hlk Bd.returns (t := .boolean) (by simp) (hb hby own_d_prog_17_method_10_code_12) (by decide) (by decide) ⟨(show some (Value.int (1 : Int32)) = some (Value.int (own_p7 jt)) by simp [own_p7, hq7]), N0, e0⟩
  refine own_go (fun _ hr => Jvm.RoadKit.acmp X0 hx rfl rfl rfl (pc0 := 8) (pc' := 13) (same := false) rfl (hb hby own_d_prog_17_method_10_code_8) rfl (decide_eq_false fun q => c1 (Value.ref.inj q)) (by decide) (by decide) hr) ?_
  show own_Go p e below _ (s₁.setTop (mkF m 13 #[.val (.ref r_BOOLEAN), .val (.ref t), .val (.ref r_BOOLEAN)] []))
  refine own_go (fun _ hr => XS.aloadN X0.here hx rfl (hb hby own_d_prog_17_method_10_code_13) rfl rfl hr) ?_
  show own_Go p e below _ (s₁.setTop (mkF m 14 #[.val (.ref r_BOOLEAN), .val (.ref t), .val (.ref r_BOOLEAN)] [(.ref r_BOOLEAN)]))
  obtain ⟨T2, X2, e2, st2⟩ := getF X0 hx hZ hown (host := "") (Or.inl (hw _ (own_m 50 rfl))) Via.refl e0 F_BOOLEAN_promotion (g := (mkF m 14 #[.val (.ref r_BOOLEAN), .val (.ref t), .val (.ref r_BOOLEAN)] [(.ref r_BOOLEAN)])) rfl rfl (hb hby own_d_prog_17_method_10_code_14)
  refine own_go st2 ?_
  show own_Go p e below _ (T2.setTop (mkF m 17 #[.val (.ref r_BOOLEAN), .val (.ref t), .val (.ref r_BOOLEAN)] [.null]))
  refine own_go (fun _ hr => XS.astoreN X2.here hx rfl (hb hby own_d_prog_17_method_10_code_17) rfl rfl (l' := #[.val (.ref r_BOOLEAN), .val (.ref t), .val .null]) rfl (XS.goto X2.here hx rfl (pc0 := 18) (pc' := 2) rfl (hb hby own_d_prog_17_method_10_code_18) (by decide) (by decide) (XS.aloadN X2.here hx rfl (hb hby own_d_prog_17_method_10_code_2) rfl rfl hr))) ?_
  show own_Go p e below _ (T2.setTop (mkF m 3 #[.val (.ref r_BOOLEAN), .val (.ref t), .val .null] [.null]))
  refine own_go (fun _ hr => XS.ifnullYes X2.here hx rfl (pc0 := 3) (pc' := 21) rfl (hb hby own_d_prog_17_method_10_code_3) rfl (by decide) (by decide) hr) ?_
  show own_Go p e below _ (T2.setTop (mkF m 21 #[.val (.ref r_BOOLEAN), .val (.ref t), .val .null] []))
  refine own_go (fun _ hr => XS.iconst X2.here hx rfl (hb hby own_d_prog_17_method_10_code_21) hr) ?_
  show own_Go p e below _ (T2.setTop (mkF m 22 #[.val (.ref r_BOOLEAN), .val (.ref t), .val .null] [(.int (0 : Int32))]))
  have hq7 : ¬ (jt = (7 : Int32)) := fun q => c1 (H_BOOLEAN.mpr q)
  exact own_retN X2 hx hlk Bd.returns (t := .boolean) (by simp) (hb hby own_d_prog_17_method_10_code_22) (by decide) (by decide) ⟨(show some (Value.int (0 : Int32)) = some (Value.int (own_p7 jt)) by simp [own_p7, hq7]), N0, e2⟩
def own_p8 (j : Int32) : Int32 := if j = 8 then 1 else 0
def Q_pr8 (Z : State) (jt : Int32) (h0 : Heap) (n0 : Nat) (v : Option Value) (h : Heap) (L : List Loc) : Prop := v = some (.int (own_p8 jt)) ∧ Fr n0 L ∧ h = h0
set_option maxRecDepth 65536 in
set_option maxHeartbeats 40000000 in
theorem rm_pr8 (l : Launch) (Z : State) (a0 : Array Value) (hw : ∀ d ∈ tables_1, d.before a0 Z = true) (ws : List Jvm.Cond) (r_DATE_TIME : Addr) (t : Addr) (jt : Int32) (h0 : Heap) (n0 : Nat) (Z0 : n0 ≤ h0.size) (F_DATE_TIME_promotion : Fld Z h0 r_DATE_TIME "com/example/libsortkey/libsortkey/values/AtomicType" "promotion" "Lcom/example/libsortkey/libsortkey/values/AtomicType;" .null) (H_DATE_TIME : r_DATE_TIME = t ↔ jt = (8 : Int32)) :
    MetFree l (⟨"com/example/libsortkey/libsortkey/values/AtomicType", "promotesTo", "(Lcom/example/libsortkey/libsortkey/values/AtomicType;)Z"⟩ : MethodName) (head1 (Jvm.Cond.code (⟨"com/example/libsortkey/libsortkey/values/AtomicType", "promotesTo", "(Lcom/example/libsortkey/libsortkey/values/AtomicType;)Z"⟩ : MethodName) prog_17_method_10_code 3 (some .boolean) :: ws) ({ frames := 0, cells := 0, slots := 0, locals := 0 } : Room)) (fun aA U => aA = #[(.ref r_DATE_TIME), (.ref t)] ∧ Z.Warmed39 U.vm ∧ U.heap = h0) (fun _ _ _ _ _ => True) (fun _ U o U' => ∃ v L, o = .returned v ∧ Q_pr8 Z jt h0 n0 v U'.heap L ∧ FrameEnd U o U' L ({ frames := 0, cells := 0, slots := 0, locals := 0 } : Room).cells ({ frames := 0, cells := 0, slots := 0, locals := 0 } : Room).slots) := by
  refine MetFree.of_bodySF (plainFor_of_name own_pn_com_example_libsortkey_libsortkey_values_AtomicType) hisR ?_
  intro p e s m args below meth c s₁ Bd hml0 hP hK
  obtain ⟨rfl, hZ, hh⟩ := hP
  have hx := Bd.exec
  have hby := Bd.bytes
  have hlk : meth.locks = false := BodyLoose.notSynchronized Bd
  have hml : c.maxLocals = 3 := hml0
  have hown : s.vm.findClass "com/example/libsortkey/libsortkey/values/AtomicType" = some m.cls := findClass_of_methodNamed Bd.named
  have hnm := (name_of_methodNamed Bd.named Bd.method).1
  have X0 : Stand p l e ({ frames := 0, cells := 0, slots := 0, locals := 0 } : Room) s m #[(.ref r_DATE_TIME), (.ref t)] below meth c s₁ [] 0 0 := Stand.of_body Bd
  have e0 : s₁.heap = h0 := by rw [← hh, Bd.state]; rfl
  have N0 := Fr.nil n0
  show own_Go p e below (own_K s (Q_pr8 Z jt h0 n0) ({ frames := 0, cells := 0, slots := 0, locals := 0 } : Room).cells ({ frames := 0, cells := 0, slots := 0, locals := 0 } : Room).slots) (s₁.setTop (entryFrame m #[(.ref r_DATE_TIME), (.ref t)] 3))
  rw [(by first | (simp [entryFrame, mkF, argsToLocals, Value.category]; done) | rfl : entryFrame m #[(.ref r_DATE_TIME), (.ref t)] 3 = mkF m 0 #[.val (.ref r_DATE_TIME), .val (.ref t), .unset] [])]
  show own_Go p e below _ (s₁.setTop (mkF m 0 #[.val (.ref r_DATE_TIME), .val (.ref t), .unset] []))
  refine own_go (fun _ hr => XS.aloadN X0.here hx rfl (hb hby own_d_prog_17_method_10_code_0) rfl rfl (XS.astoreN X0.here hx rfl (hb hby own_d_prog_17_method_10_code_1) rfl rfl (l' := #[.val (.ref r_DATE_TIME), .val (.ref t), .val (.ref r_DATE_TIME)]) rfl (XS.aloadN X0.here hx rfl (hb hby own_d_prog_17_method_10_code_2) rfl rfl hr))) ?_
  show own_Go p e below _ (s₁.setTop (mkF m 3 #[.val (.ref r_DATE_TIME), .val (.ref t), .val (.ref r_DATE_TIME)] [(.ref r_DATE_TIME)]))
  refine own_go (fun _ hr => XS.ifnullNo X0.here hx rfl (hb hby own_d_prog_17_method_10_code_3) rfl hr) ?_
  show own_Go p e below _ (s₁.setTop (mkF m 6 #[.val (.ref r_DATE_TIME), .val (.ref t), .val (.ref r_DATE_TIME)] []))
  refine own_go (fun _ hr => XS.aloadN X0.here hx rfl (hb hby own_d_prog_17_method_10_code_6) rfl rfl (XS.aloadN X0.here hx rfl (hb hby own_d_prog_17_method_10_code_7) rfl rfl hr)) ?_
  show own_Go p e below _ (s₁.setTop (mkF m 8 #[.val (.ref r_DATE_TIME), .val (.ref t), .val (.ref r_DATE_TIME)] [(.ref t), (.ref r_DATE_TIME)]))
  by_cases c1 : r_DATE_TIME = t
  · refine own_go (fun _ hr => Jvm.RoadKit.acmp X0 hx rfl rfl rfl (pc0 := 8) (pc' := 11) (same := true) rfl (hb hby own_d_prog_17_method_10_code_8) rfl (decide_eq_true (congrArg Value.ref c1)) (by decide) (by decide) hr) ?_
    show own_Go p e below _ (s₁.setTop (mkF m 11 #[.val (.ref r_DATE_TIME), .val (.ref t), .val (.ref r_DATE_TIME)] []))
    refine own_go (fun _ hr => XS.iconst X0.here hx rfl (hb hby own_d_prog_17_method_10_code_11) hr) ?_
    show own_Go p e below _ (s₁.setTop (mkF m 12 #[.val (.ref r_DATE_TIME), .val (.ref t), .val (.ref r_DATE_TIME)] [(.int (1 : Int32))]))
    have hq8 : jt = (8 : Int32) := H_DATE_TIME.mp c1
    exact own_retN X0 hx hlk Bd.returns (t := .boolean) (by simp) (hb hby own_d_prog_17_method_10_code_12) (by decide) (by decide) ⟨(show some (Value.int (1 : Int32)) = some (Value.int (own_p8 jt)) by simp [own_p8, hq8]), N0, e0⟩
  refine own_go (fun _ hr => Jvm.RoadKit.acmp X0 hx rfl rfl rfl (pc0 := 8) (pc' := 13) (same := false) rfl (hb hby own_d_prog_17_method_10_code_8) rfl (decide_eq_false fun q => c1 (Value.ref.inj q)) (by decide) (by decide) hr) ?_
  show own_Go p e below _ (s₁.setTop (mkF m 13 #[.val (.ref r_DATE_TIME), .val (.ref t), .val (.ref r_DATE_TIME)] []))
  refine own_go (fun _ hr => XS.aloadN X0.here hx rfl (hb hby own_d_prog_17_method_10_code_13) rfl rfl hr) ?_
  show own_Go p e below _ (s₁.setTop (mkF m 14 #[.val (.ref r_DATE_TIME), .val (.ref t), .val (.ref r_DATE_TIME)] [(.ref r_DATE_TIME)]))
  obtain ⟨T2, X2, e2, st2⟩ := getF X0 hx hZ hown (host := "") (Or.inl (hw _ (own_m 50 rfl))) Via.refl e0 F_DATE_TIME_promotion (g := (mkF m 14 #[.val (.ref r_DATE_TIME), .val (.ref t), .val (.ref r_DATE_TIME)] [(.ref r_DATE_TIME)])) rfl rfl (hb hby own_d_prog_17_method_10_code_14)
  refine own_go st2 ?_
  show own_Go p e below _ (T2.setTop (mkF m 17 #[.val (.ref r_DATE_TIME), .val (.ref t), .val (.ref r_DATE_TIME)] [.null]))
  refine own_go (fun _ hr => XS.astoreN X2.here hx rfl (hb hby own_d_prog_17_method_10_code_17) rfl rfl (l' := #[.val (.ref r_DATE_TIME), .val (.ref t), .val .null]) rfl (XS.goto X2.here hx rfl (pc0 := 18) (pc' := 2) rfl (hb hby own_d_prog_17_method_10_code_18) (by decide) (by decide) (XS.aloadN X2.here hx rfl (hb hby own_d_prog_17_method_10_code_2) rfl rfl hr))) ?_
  show own_Go p e below _ (T2.setTop (mkF m 3 #[.val (.ref r_DATE_TIME), .val (.ref t), .val .null] [.null]))
  refine own_go (fun _ hr => XS.ifnullYes X2.here hx rfl (pc0 := 3) (pc' := 21) rfl (hb hby own_d_prog_17_method_10_code_3) rfl (by decide) (by decide) hr) ?_
  show own_Go p e below _ (T2.setTop (mkF m 21 #[.val (.ref r_DATE_TIME), .val (.ref t), .val .null] []))
  refine own_go (fun _ hr => XS.iconst X2.here hx rfl (hb hby own_d_prog_17_method_10_code_21) hr) ?_
  show own_Go p e below _ (T2.setTop (mkF m 22 #[.val (.ref r_DATE_TIME), .val (.ref t), .val .null] [(.int (0 : Int32))]))
  have hq8 : ¬ (jt = (8 : Int32)) := fun q => c1 (H_DATE_TIME.mpr q)
  exact own_retN X2 hx hlk Bd.returns (t := .boolean) (by simp) (hb hby own_d_prog_17_method_10_code_22) (by decide) (by decide) ⟨(show some (Value.int (0 : Int32)) = some (Value.int (own_p8 jt)) by simp [own_p8, hq8]), N0, e2⟩
def own_p9 (j : Int32) : Int32 := if j = 9 then 1 else 0
def Q_pr9 (Z : State) (jt : Int32) (h0 : Heap) (n0 : Nat) (v : Option Value) (h : Heap) (L : List Loc) : Prop := v = some (.int (own_p9 jt)) ∧ Fr n0 L ∧ h = h0
set_option maxRecDepth 65536 in
set_option maxHeartbeats 40000000 in
theorem rm_pr9 (l : Launch) (Z : State) (a0 : Array Value) (hw : ∀ d ∈ tables_1, d.before a0 Z = true) (ws : List Jvm.Cond) (r_DATE : Addr) (t : Addr) (jt : Int32) (h0 : Heap) (n0 : Nat) (Z0 : n0 ≤ h0.size) (F_DATE_promotion : Fld Z h0 r_DATE "com/example/libsortkey/libsortkey/values/AtomicType" "promotion" "Lcom/example/libsortkey/libsortkey/values/AtomicType;" .null) (H_DATE : r_DATE = t ↔ jt = (9 : Int32)) :
    MetFree l (⟨"com/example/libsortkey/libsortkey/values/AtomicType", "promotesTo", "(Lcom/example/libsortkey/libsortkey/values/AtomicType;)Z"⟩ : MethodName) (head1 (Jvm.Cond.code (⟨"com/example/libsortkey/libsortkey/values/AtomicType", "promotesTo", "(Lcom/example/libsortkey/libsortkey/values/AtomicType;)Z"⟩ : MethodName) prog_17_method_10_code 3 (some .boolean) :: ws) ({ frames := 0, cells := 0, slots := 0, locals := 0 } : Room)) (fun aA U => aA = #[(.ref r_DATE), (.ref t)] ∧ Z.Warmed39 U.vm ∧ U.heap = h0) (fun _ _ _ _ _ => True) (fun _ U o U' => ∃ v L, o = .returned v ∧ Q_pr9 Z jt h0 n0 v U'.heap L ∧ FrameEnd U o U' L ({ frames := 0, cells := 0, slots := 0, locals := 0 } : Room).cells ({ frames := 0, cells := 0, slots := 0, locals := 0 } : Room).slots) := by
  refine MetFree.of_bodySF (plainFor_of_name own_pn_com_example_libsortkey_libsortkey_values_AtomicType) hisR ?_
  intro p e s m args below meth c s₁ Bd hml0 hP hK
  obtain ⟨rfl, hZ, hh⟩ := hP
  have hx := Bd.exec
  have hby := Bd.bytes
  have hlk : meth.locks = false := BodyLoose.notSynchronized Bd
  have hml : c.maxLocals = 3 := hml0
  have hown : s.vm.findClass "com/example/libsortkey/libsortkey/values/AtomicType" = some m.cls := findClass_of_methodNamed Bd.named
  have hnm := (name_of_methodNamed Bd.named Bd.method).1
  have X0 : Stand p l e ({ frames := 0, cells := 0, slots := 0, locals := 0 } : Room) s m #[(.ref r_DATE), (.ref t)] below meth c s₁ [] 0 0 := Stand.of_body Bd
  have e0 : s₁.heap = h0 := by rw [← hh, Bd.state]; rfl
  have N0 := Fr.nil n0
  show own_Go p e below (own_K s (Q_pr9 Z jt h0 n0) ({ frames := 0, cells := 0, slots := 0, locals := 0 } : Room).cells ({ frames := 0, cells := 0, slots := 0, locals := 0 } : Room).slots) (s₁.setTop (entryFrame m #[(.ref r_DATE), (.ref t)] 3))
  rw [(by first | (simp [entryFrame, mkF, argsToLocals, Value.category]; done) | rfl : entryFrame m #[(.ref r_DATE), (.ref t)] 3 = mkF m 0 #[.val (.ref r_DATE), .val (.ref t), .unset] [])]
  show own_Go p e below _ (s₁.setTop (mkF m 0 #[.val (.ref r_DATE), .val (.ref t), .unset] []))
  refine own_go (fun _ hr => XS.aloadN X0.here hx rfl (hb hby own_d_prog_17_method_10_code_0) rfl rfl (XS.astoreN X0.here hx rfl (hb hby own_d_prog_17_method_10_code_1) rfl rfl (l' := #[.val (.ref r_DATE), .val (.ref t), .val (.ref r_DATE)]) rfl (XS.aloadN X0.here hx rfl (hb hby own_d_prog_17_method_10_code_2) rfl rfl hr))) ?_
  show own_Go p e below _ (s₁.setTop (mkF m 3 #[.val (.ref r_DATE), .val (.ref t), .val (.ref r_DATE)] [(.ref r_DATE)]))
  refine own_go (fun _ hr => XS.ifnullNo X0.here hx rfl (hb hby own_d_prog_17_method_10_code_3) rfl hr) ?_
  show own_Go p e below _ (s₁.setTop (mkF m 6 #[.val (.ref r_DATE), .val (.ref t), .val (.ref r_DATE)] []))
  refine own_go (fun _ hr => XS.aloadN X0.here hx rfl (hb hby own_d_prog_17_method_10_code_6) rfl rfl (XS.aloadN X0.here hx rfl (hb hby own_d_prog_17_method_10_code_7) rfl rfl hr)) ?_
  show own_Go p e below _ (s₁.setTop (mkF m 8 #[.val (.ref r_DATE), .val (.ref t), .val (.ref r_DATE)] [(.ref t), (.ref r_DATE)]))
  by_cases c1 : r_DATE = t
  · refine own_go (fun _ hr => Jvm.RoadKit.acmp X0 hx rfl rfl rfl (pc0 := 8) (pc' := 11) (same := true) rfl (hb hby own_d_prog_17_method_10_code_8) rfl (decide_eq_true (congrArg Value.ref c1)) (by decide) (by decide) hr) ?_
    show own_Go p e below _ (s₁.setTop (mkF m 11 #[.val (.ref r_DATE), .val (.ref t), .val (.ref r_DATE)] []))
    refine own_go (fun _ hr => XS.iconst X0.here hx rfl (hb hby own_d_prog_17_method_10_code_11) hr) ?_
    show own_Go p e below _ (s₁.setTop (mkF m 12 #[.val (.ref r_DATE), .val (.ref t), .val (.ref r_DATE)] [(.int (1 : Int32))]))
    have hq9 : jt = (9 : Int32) := H_DATE.mp c1
    exact own_retN X0 hx hlk Bd.returns (t := .boolean) (by simp) (hb hby own_d_prog_17_method_10_code_12) (by decide) (by decide) ⟨(show some (Value.int (1 : Int32)) = some (Value.int (own_p9 jt)) by simp [own_p9, hq9]), N0, e0⟩
  refine own_go (fun _ hr => Jvm.RoadKit.acmp X0 hx rfl rfl rfl (pc0 := 8) (pc' := 13) (same := false) rfl (hb hby own_d_prog_17_method_10_code_8) rfl (decide_eq_false fun q => c1 (Value.ref.inj q)) (by decide) (by decide) hr) ?_
  show own_Go p e below _ (s₁.setTop (mkF m 13 #[.val (.ref r_DATE), .val (.ref t), .val (.ref r_DATE)] []))
  refine own_go (fun _ hr => XS.aloadN X0.here hx rfl (hb hby own_d_prog_17_method_10_code_13) rfl rfl hr) ?_
  show own_Go p e below _ (s₁.setTop (mkF m 14 #[.val (.ref r_DATE), .val (.ref t), .val (.ref r_DATE)] [(.ref r_DATE)]))
  obtain ⟨T2, X2, e2, st2⟩ := getF X0 hx hZ hown (host := "") (Or.inl (hw _ (own_m 50 rfl))) Via.refl e0 F_DATE_promotion (g := (mkF m 14 #[.val (.ref r_DATE), .val (.ref t), .val (.ref r_DATE)] [(.ref r_DATE)])) rfl rfl (hb hby own_d_prog_17_method_10_code_14)
  refine own_go st2 ?_
  show own_Go p e below _ (T2.setTop (mkF m 17 #[.val (.ref r_DATE), .val (.ref t), .val (.ref r_DATE)] [.null]))
  refine own_go (fun _ hr => XS.astoreN X2.here hx rfl (hb hby own_d_prog_17_method_10_code_17) rfl rfl (l' := #[.val (.ref r_DATE), .val (.ref t), .val .null]) rfl (XS.goto X2.here hx rfl (pc0 := 18) (pc' := 2) rfl (hb hby own_d_prog_17_method_10_code_18) (by decide) (by decide) (XS.aloadN X2.here hx rfl (hb hby own_d_prog_17_method_10_code_2) rfl rfl hr))) ?_
  show own_Go p e below _ (T2.setTop (mkF m 3 #[.val (.ref r_DATE), .val (.ref t), .val .null] [.null]))
  refine own_go (fun _ hr => XS.ifnullYes X2.here hx rfl (pc0 := 3) (pc' := 21) rfl (hb hby own_d_prog_17_method_10_code_3) rfl (by decide) (by decide) hr) ?_
  show own_Go p e below _ (T2.setTop (mkF m 21 #[.val (.ref r_DATE), .val (.ref t), .val .null] []))
  refine own_go (fun _ hr => XS.iconst X2.here hx rfl (hb hby own_d_prog_17_method_10_code_21) hr) ?_
  show own_Go p e below _ (T2.setTop (mkF m 22 #[.val (.ref r_DATE), .val (.ref t), .val .null] [(.int (0 : Int32))]))
  have hq9 : ¬ (jt = (9 : Int32)) := fun q => c1 (H_DATE.mpr q)
  exact own_retN X2 hx hlk Bd.returns (t := .boolean) (by simp) (hb hby own_d_prog_17_method_10_code_22) (by decide) (by decide) ⟨(show some (Value.int (0 : Int32)) = some (Value.int (own_p9 jt)) by simp [own_p9, hq9]), N0, e2⟩
def own_p10 (j : Int32) : Int32 := if j = 10 then 1 else 0
def Q_pr10 (Z : State) (jt : Int32) (h0 : Heap) (n0 : Nat) (v : Option Value) (h : Heap) (L : List Loc) : Prop := v = some (.int (own_p10 jt)) ∧ Fr n0 L ∧ h = h0
set_option maxRecDepth 65536 in
set_option maxHeartbeats 40000000 in
theorem rm_pr10 (l : Launch) (Z : State) (a0 : Array Value) (hw : ∀ d ∈ tables_1, d.before a0 Z = true) (ws : List Jvm.Cond) (r_TIME : Addr) (t : Addr) (jt : Int32) (h0 : Heap) (n0 : Nat) (Z0 : n0 ≤ h0.size) (F_TIME_promotion : Fld Z h0 r_TIME "com/example/libsortkey/libsortkey/values/AtomicType" "promotion" "Lcom/example/libsortkey/libsortkey/values/AtomicType;" .null) (H_TIME : r_TIME = t ↔ jt = (10 : Int32)) :
    MetFree l (⟨"com/example/libsortkey/libsortkey/values/AtomicType", "promotesTo", "(Lcom/example/libsortkey/libsortkey/values/AtomicType;)Z"⟩ : MethodName) (head1 (Jvm.Cond.code (⟨"com/example/libsortkey/libsortkey/values/AtomicType", "promotesTo", "(Lcom/example/libsortkey/libsortkey/values/AtomicType;)Z"⟩ : MethodName) prog_17_method_10_code 3 (some .boolean) :: ws) ({ frames := 0, cells := 0, slots := 0, locals := 0 } : Room)) (fun aA U => aA = #[(.ref r_TIME), (.ref t)] ∧ Z.Warmed39 U.vm ∧ U.heap = h0) (fun _ _ _ _ _ => True) (fun _ U o U' => ∃ v L, o = .returned v ∧ Q_pr10 Z jt h0 n0 v U'.heap L ∧ FrameEnd U o U' L ({ frames := 0, cells := 0, slots := 0, locals := 0 } : Room).cells ({ frames := 0, cells := 0, slots := 0, locals := 0 } : Room).slots) := by
  refine MetFree.of_bodySF (plainFor_of_name own_pn_com_example_libsortkey_libsortkey_values_AtomicType) hisR ?_
  intro p e s m args below meth c s₁ Bd hml0 hP hK
  obtain ⟨rfl, hZ, hh⟩ := hP
  have hx := Bd.exec
  have hby := Bd.bytes
  have hlk : meth.locks = false := BodyLoose.notSynchronized Bd
  have hml : c.maxLocals = 3 := hml0
  have hown : s.vm.findClass "com/example/libsortkey/libsortkey/values/AtomicType" = some m.cls := findClass_of_methodNamed Bd.named
  have hnm := (name_of_methodNamed Bd.named Bd.method).1
  have X0 : Stand p l e ({ frames := 0, cells := 0, slots := 0, locals := 0 } : Room) s m #[(.ref r_TIME), (.ref t)] below meth c s₁ [] 0 0 := Stand.of_body Bd
  have e0 : s₁.heap = h0 := by rw [← hh, Bd.state]; rfl
  have N0 := Fr.nil n0
  show own_Go p e below (own_K s (Q_pr10 Z jt h0 n0) ({ frames := 0, cells := 0, slots := 0, locals := 0 } : Room).cells ({ frames := 0, cells := 0, slots := 0, locals := 0 } : Room).slots) (s₁.setTop (entryFrame m #[(.ref r_TIME), (.ref t)] 3))
  rw [(by first | (simp [entryFrame, mkF, argsToLocals, Value.category]; done) | rfl : entryFrame m #[(.ref r_TIME), (.ref t)] 3 = mkF m 0 #[.val (.ref r_TIME), .val (.ref t), .unset] [])]
  show own_Go p e below _ (s₁.setTop (mkF m 0 #[.val (.ref r_TIME), .val (.ref t), .unset] []))
  refine own_go (fun _ hr => XS.aloadN X0.here hx rfl (hb hby own_d_prog_17_method_10_code_0) rfl rfl (XS.astoreN X0.here hx rfl (hb hby own_d_prog_17_method_10_code_1) rfl rfl (l' := #[.val (.ref r_TIME), .val (.ref t), .val (.ref r_TIME)]) rfl (XS.aloadN X0.here hx rfl (hb hby own_d_prog_17_method_10_code_2) rfl rfl hr))) ?_
  show own_Go p e below _ (s₁.setTop (mkF m 3 #[.val (.ref r_TIME), .val (.ref t), .val (.ref r_TIME)] [(.ref r_TIME)]))
  refine own_go (fun _ hr => XS.ifnullNo X0.here hx rfl (hb hby own_d_prog_17_method_10_code_3) rfl hr) ?_
  show own_Go p e below _ (s₁.setTop (mkF m 6 #[.val (.ref r_TIME), .val (.ref t), .val (.ref r_TIME)] []))
  refine own_go (fun _ hr => XS.aloadN X0.here hx rfl (hb hby own_d_prog_17_method_10_code_6) rfl rfl (XS.aloadN X0.here hx rfl (hb hby own_d_prog_17_method_10_code_7) rfl rfl hr)) ?_
  show own_Go p e below _ (s₁.setTop (mkF m 8 #[.val (.ref r_TIME), .val (.ref t), .val (.ref r_TIME)] [(.ref t), (.ref r_TIME)]))
  by_cases c1 : r_TIME = t
  · refine own_go (fun _ hr => Jvm.RoadKit.acmp X0 hx rfl rfl rfl (pc0 := 8) (pc' := 11) (same := true) rfl (hb hby own_d_prog_17_method_10_code_8) rfl (decide_eq_true (congrArg Value.ref c1)) (by decide) (by decide) hr) ?_
    show own_Go p e below _ (s₁.setTop (mkF m 11 #[.val (.ref r_TIME), .val (.ref t), .val (.ref r_TIME)] []))
    refine own_go (fun _ hr => XS.iconst X0.here hx rfl (hb hby own_d_prog_17_method_10_code_11) hr) ?_
    show own_Go p e below _ (s₁.setTop (mkF m 12 #[.val (.ref r_TIME), .val (.ref t), .val (.ref r_TIME)] [(.int (1 : Int32))]))
    have hq10 : jt = (10 : Int32) := H_TIME.mp c1
    exact own_retN X0 hx hlk Bd.returns (t := .boolean) (by simp) (hb hby own_d_prog_17_method_10_code_12) (by decide) (by decide) ⟨(show some (Value.int (1 : Int32)) = some (Value.int (own_p10 jt)) by simp [own_p10, hq10]), N0, e0⟩
  refine own_go (fun _ hr => Jvm.RoadKit.acmp X0 hx rfl rfl rfl (pc0 := 8) (pc' := 13) (same := false) rfl (hb hby own_d_prog_17_method_10_code_8) rfl (decide_eq_false fun q => c1 (Value.ref.inj q)) (by decide) (by decide) hr) ?_
  show own_Go p e below _ (s₁.setTop (mkF m 13 #[.val (.ref r_TIME), .val (.ref t), .val (.ref r_TIME)] []))
  refine own_go (fun _ hr => XS.aloadN X0.here hx rfl (hb hby own_d_prog_17_method_10_code_13) rfl rfl hr) ?_
  show own_Go p e below _ (s₁.setTop (mkF m 14 #[.val (.ref r_TIME), .val (.ref t), .val (.ref r_TIME)] [(.ref r_TIME)]))
  obtain ⟨T2, X2, e2, st2⟩ := getF X0 hx hZ hown (host := "") (Or.inl (hw _ (own_m 50 rfl))) Via.refl e0 F_TIME_promotion (g := (mkF m 14 #[.val (.ref r_TIME), .val (.ref t), .val (.ref r_TIME)] [(.ref r_TIME)])) rfl rfl (hb hby own_d_prog_17_method_10_code_14)
  refine own_go st2 ?_
  show own_Go p e below _ (T2.setTop (mkF m 17 #[.val (.ref r_TIME), .val (.ref t), .val (.ref r_TIME)] [.null]))
  refine own_go (fun _ hr => XS.astoreN X2.here hx rfl (hb hby own_d_prog_17_method_10_code_17) rfl rfl (l' := #[.val (.ref r_TIME), .val (.ref t), .val .null]) rfl (XS.goto X2.here hx rfl (pc0 := 18) (pc' := 2) rfl (hb hby own_d_prog_17_method_10_code_18) (by decide) (by decide) (XS.aloadN X2.here hx rfl (hb hby own_d_prog_17_method_10_code_2) rfl rfl hr))) ?_
  show own_Go p e below _ (T2.setTop (mkF m 3 #[.val (.ref r_TIME), .val (.ref t), .val .null] [.null]))
  refine own_go (fun _ hr => XS.ifnullYes X2.here hx rfl (pc0 := 3) (pc' := 21) rfl (hb hby own_d_prog_17_method_10_code_3) rfl (by decide) (by decide) hr) ?_
  show own_Go p e below _ (T2.setTop (mkF m 21 #[.val (.ref r_TIME), .val (.ref t), .val .null] []))
  refine own_go (fun _ hr => XS.iconst X2.here hx rfl (hb hby own_d_prog_17_method_10_code_21) hr) ?_
  show own_Go p e below _ (T2.setTop (mkF m 22 #[.val (.ref r_TIME), .val (.ref t), .val .null] [(.int (0 : Int32))]))
  have hq10 : ¬ (jt = (10 : Int32)) := fun q => c1 (H_TIME.mpr q)
  exact own_retN X2 hx hlk Bd.returns (t := .boolean) (by simp) (hb hby own_d_prog_17_method_10_code_22) (by decide) (by decide) ⟨(show some (Value.int (0 : Int32)) = some (Value.int (own_p10 jt)) by simp [own_p10, hq10]), N0, e2⟩
def own_p11 (j : Int32) : Int32 := if j = 11 then 1 else 0
def Q_pr11 (Z : State) (jt : Int32) (h0 : Heap) (n0 : Nat) (v : Option Value) (h : Heap) (L : List Loc) : Prop := v = some (.int (own_p11 jt)) ∧ Fr n0 L ∧ h = h0
set_option maxRecDepth 65536 in
set_option maxHeartbeats 40000000 in
theorem rm_pr11 (l : Launch) (Z : State) (a0 : Array Value) (hw : ∀ d ∈ tables_1, d.before a0 Z = true) (ws : List Jvm.Cond) (r_YEAR_MONTH_DURATION : Addr) (t : Addr) (jt : Int32) (h0 : Heap) (n0 : Nat) (Z0 : n0 ≤ h0.size) (F_YEAR_MONTH_DURATION_promotion : Fld Z h0 r_YEAR_MONTH_DURATION "com/example/libsortkey/libsortkey/values/AtomicType" "promotion" "Lcom/example/libsortkey/libsortkey/values/AtomicType;" .null) (H_YEAR_MONTH_DURATION : r_YEAR_MONTH_DURATION = t ↔ jt = (11 : Int32)) :
    MetFree l (⟨"com/example/libsortkey/libsortkey/values/AtomicType", "promotesTo", "(Lcom/example/libsortkey/libsortkey/values/AtomicType;)Z"⟩ : MethodName) (head1 (Jvm.Cond.code (⟨"com/example/libsortkey/libsortkey/values/AtomicType", "promotesTo", "(Lcom/example/libsortkey/libsortkey/values/AtomicType;)Z"⟩ : MethodName) prog_17_method_10_code 3 (some .boolean) :: ws) ({ frames := 0, cells := 0, slots := 0, locals := 0 } : Room)) (fun aA U => aA = #[(.ref r_YEAR_MONTH_DURATION), (.ref t)] ∧ Z.Warmed39 U.vm ∧ U.heap = h0) (fun _ _ _ _ _ => True) (fun _ U o U' => ∃ v L, o = .returned v ∧ Q_pr11 Z jt h0 n0 v U'.heap L ∧ FrameEnd U o U' L ({ frames := 0, cells := 0, slots := 0, locals := 0 } : Room).cells ({ frames := 0, cells := 0, slots := 0, locals := 0 } : Room).slots) := by
  refine MetFree.of_bodySF (plainFor_of_name own_pn_com_example_libsortkey_libsortkey_values_AtomicType) hisR ?_
  intro p e s m args below meth c s₁ Bd hml0 hP hK
  obtain ⟨rfl, hZ, hh⟩ := hP
  have hx := Bd.exec
  have hby := Bd.bytes
  have hlk : meth.locks = false := BodyLoose.notSynchronized Bd
  have hml : c.maxLocals = 3 := hml0
  have hown : s.vm.findClass "com/example/libsortkey/libsortkey/values/AtomicType" = some m.cls := findClass_of_methodNamed Bd.named
  have hnm := (name_of_methodNamed Bd.named Bd.method).1
  have X0 : Stand p l e ({ frames := 0, cells := 0, slots := 0, locals := 0 } : Room) s m #[(.ref r_YEAR_MONTH_DURATION), (.ref t)] below meth c s₁ [] 0 0 := Stand.of_body Bd
  have e0 : s₁.heap = h0 := by rw [← hh, Bd.state]; rfl
  have N0 := Fr.nil n0
  show own_Go p e below (own_K s (Q_pr11 Z jt h0 n0) ({ frames := 0, cells := 0, slots := 0, locals := 0 } : Room).cells ({ frames := 0, cells := 0, slots := 0, locals := 0 } : Room).slots) (s₁.setTop (entryFrame m #[(.ref r_YEAR_MONTH_DURATION), (.ref t)] 3))
  rw [(by first | (simp [entryFrame, mkF, argsToLocals, Value.category]; done) | rfl : entryFrame m #[(.ref r_YEAR_MONTH_DURATION), (.ref t)] 3 = mkF m 0 #[.val (.ref r_YEAR_MONTH_DURATION), .val (.ref t), .unset] [])]
  show own_Go p e below _ (s₁.setTop (mkF m 0 #[.val (.ref r_YEAR_MONTH_DURATION), .val (.ref t), .unset] []))
  refine own_go (fun _ hr => XS.aloadN X0.here hx rfl (hb hby own_d_prog_17_method_10_code_0) rfl rfl (XS.astoreN X0.here hx rfl (hb hby own_d_prog_17_method_10_code_1) rfl rfl (l' := #[.val (.ref r_YEAR_MONTH_DURATION), .val (.ref t), .val (.ref r_YEAR_MONTH_DURATION)]) rfl (XS.aloadN X0.here hx rfl (hb hby own_d_prog_17_method_10_code_2) rfl rfl hr))) ?_
  show own_Go p e below _ (s₁.setTop (mkF m 3 #[.val (.ref r_YEAR_MONTH_DURATION), .val (.ref t), .val (.ref r_YEAR_MONTH_DURATION)] [(.ref r_YEAR_MONTH_DURATION)]))
  refine own_go (fun _ hr => XS.ifnullNo X0.here hx rfl (hb hby own_d_prog_17_method_10_code_3) rfl hr) ?_
  show own_Go p e below _ (s₁.setTop (mkF m 6 #[.val (.ref r_YEAR_MONTH_DURATION), .val (.ref t), .val (.ref r_YEAR_MONTH_DURATION)] []))
  refine own_go (fun _ hr => XS.aloadN X0.here hx rfl (hb hby own_d_prog_17_method_10_code_6) rfl rfl (XS.aloadN X0.here hx rfl (hb hby own_d_prog_17_method_10_code_7) rfl rfl hr)) ?_
  show own_Go p e below _ (s₁.setTop (mkF m 8 #[.val (.ref r_YEAR_MONTH_DURATION), .val (.ref t), .val (.ref r_YEAR_MONTH_DURATION)] [(.ref t), (.ref r_YEAR_MONTH_DURATION)]))
  by_cases c1 : r_YEAR_MONTH_DURATION = t
  · refine own_go (fun _ hr => Jvm.RoadKit.acmp X0 hx rfl rfl rfl (pc0 := 8) (pc' := 11) (same := true) rfl (hb hby own_d_prog_17_method_10_code_8) rfl (decide_eq_true (congrArg Value.ref c1)) (by decide) (by decide) hr) ?_
    show own_Go p e below _ (s₁.setTop (mkF m 11 #[.val (.ref r_YEAR_MONTH_DURATION), .val (.ref t), .val (.ref r_YEAR_MONTH_DURATION)] []))
    refine own_go (fun _ hr => XS.iconst X0.here hx rfl (hb hby own_d_prog_17_method_10_code_11) hr) ?_
    show own_Go p e below _ (s₁.setTop (mkF m 12 #[.val (.ref r_YEAR_MONTH_DURATION), .val (.ref t), .val (.ref r_YEAR_MONTH_DURATION)] [(.int (1 : Int32))]))
    have hq11 : jt = (11 : Int32) := H_YEAR_MONTH_DURATION.mp c1
    exact own_retN X0 hx hlk Bd.returns (t := .boolean) (by simp) (hb hby own_d_prog_17_method_10_code_12) (by decide) (by decide) ⟨(show some (Value.int (1 : Int32)) = some (Value.int (own_p11 jt)) by simp [own_p11, hq11]), N0, e0⟩
  refine own_go (fun _ hr => Jvm.RoadKit.acmp X0 hx rfl rfl rfl (pc0 := 8) (pc' := 13) (same := false) rfl (hb hby own_d_prog_17_method_10_code_8) rfl (decide_eq_false fun q => c1 (Value.ref.inj q)) (by decide) (by decide) hr) ?_
  show own_Go p e below _ (s₁.setTop (mkF m 13 #[.val (.ref r_YEAR_MONTH_DURATION), .val (.ref t), .val (.ref r_YEAR_MONTH_DURATION)] []))
  refine own_go (fun _ hr => XS.aloadN X0.here hx rfl (hb hby own_d_prog_17_method_10_code_13) rfl rfl hr) ?_
  show own_Go p e below _ (s₁.setTop (mkF m 14 #[.val (.ref r_YEAR_MONTH_DURATION), .val (.ref t), .val (.ref r_YEAR_MONTH_DURATION)] [(.ref r_YEAR_MONTH_DURATION)]))
  obtain ⟨T2, X2, e2, st2⟩ := getF X0 hx hZ hown (host := "") (Or.inl (hw _ (own_m 50 rfl))) Via.refl e0 F_YEAR_MONTH_DURATION_promotion (g := (mkF m 14 #[.val (.ref r_YEAR_MONTH_DURATION), .val (.ref t), .val (.ref r_YEAR_MONTH_DURATION)] [(.ref r_YEAR_MONTH_DURATION)])) rfl rfl (hb hby own_d_prog_17_method_10_code_14)
  refine own_go st2 ?_
  show own_Go p e below _ (T2.setTop (mkF m 17 #[.val (.ref r_YEAR_MONTH_DURATION), .val (.ref t), .val (.ref r_YEAR_MONTH_DURATION)] [.null]))
  refine own_go (fun _ hr => XS.astoreN X2.here hx rfl (hb hby own_d_prog_17_method_10_code_17) rfl rfl (l' := #[.val (.ref r_YEAR_MONTH_DURATION), .val (.ref t), .val .null]) rfl (XS.goto X2.here hx rfl (pc0 := 18) (pc' := 2) rfl (hb hby own_d_prog_17_method_10_code_18) (by decide) (by decide) (XS.aloadN X2.here hx rfl (hb hby own_d_prog_17_method_10_code_2) rfl rfl hr))) ?_
  show own_Go p e below _ (T2.setTop (mkF m 3 #[.val (.ref r_YEAR_MONTH_DURATION), .val (.ref t), .val .null] [.null]))
  refine own_go (fun _ hr => XS.ifnullYes X2.here hx rfl (pc0 := 3) (pc' := 21) rfl (hb hby own_d_prog_17_method_10_code_3) rfl (by decide) (by decide) hr) ?_
  show own_Go p e below _ (T2.setTop (mkF m 21 #[.val (.ref r_YEAR_MONTH_DURATION), .val (.ref t), .val .null] []))
  refine own_go (fun _ hr => XS.iconst X2.here hx rfl (hb hby own_d_prog_17_method_10_code_21) hr) ?_
  show own_Go p e below _ (T2.setTop (mkF m 22 #[.val (.ref r_YEAR_MONTH_DURATION), .val (.ref t), .val .null] [(.int (0 : Int32))]))
  have hq11 : ¬ (jt = (11 : Int32)) := fun q => c1 (H_YEAR_MONTH_DURATION.mpr q)
  exact own_retN X2 hx hlk Bd.returns (t := .boolean) (by simp) (hb hby own_d_prog_17_method_10_code_22) (by decide) (by decide) ⟨(show some (Value.int (0 : Int32)) = some (Value.int (own_p11 jt)) by simp [own_p11, hq11]), N0, e2⟩
def own_p12 (j : Int32) : Int32 := if j = 12 then 1 else 0
def Q_pr12 (Z : State) (jt : Int32) (h0 : Heap) (n0 : Nat) (v : Option Value) (h : Heap) (L : List Loc) : Prop := v = some (.int (own_p12 jt)) ∧ Fr n0 L ∧ h = h0
set_option maxRecDepth 65536 in
set_option maxHeartbeats 40000000 in
theorem rm_pr12 (l : Launch) (Z : State) (a0 : Array Value) (hw : ∀ d ∈ tables_1, d.before a0 Z = true) (ws : List Jvm.Cond) (r_DAY_TIME_DURATION : Addr) (t : Addr) (jt : Int32) (h0 : Heap) (n0 : Nat) (Z0 : n0 ≤ h0.size) (F_DAY_TIME_DURATION_promotion : Fld Z h0 r_DAY_TIME_DURATION "com/example/libsortkey/libsortkey/values/AtomicType" "promotion" "Lcom/example/libsortkey/libsortkey/values/AtomicType;" .null) (H_DAY_TIME_DURATION : r_DAY_TIME_DURATION = t ↔ jt = (12 : Int32)) :
    MetFree l (⟨"com/example/libsortkey/libsortkey/values/AtomicType", "promotesTo", "(Lcom/example/libsortkey/libsortkey/values/AtomicType;)Z"⟩ : MethodName) (head1 (Jvm.Cond.code (⟨"com/example/libsortkey/libsortkey/values/AtomicType", "promotesTo", "(Lcom/example/libsortkey/libsortkey/values/AtomicType;)Z"⟩ : MethodName) prog_17_method_10_code 3 (some .boolean) :: ws) ({ frames := 0, cells := 0, slots := 0, locals := 0 } : Room)) (fun aA U => aA = #[(.ref r_DAY_TIME_DURATION), (.ref t)] ∧ Z.Warmed39 U.vm ∧ U.heap = h0) (fun _ _ _ _ _ => True) (fun _ U o U' => ∃ v L, o = .returned v ∧ Q_pr12 Z jt h0 n0 v U'.heap L ∧ FrameEnd U o U' L ({ frames := 0, cells := 0, slots := 0, locals := 0 } : Room).cells ({ frames := 0, cells := 0, slots := 0, locals := 0 } : Room).slots) := by
  refine MetFree.of_bodySF (plainFor_of_name own_pn_com_example_libsortkey_libsortkey_values_AtomicType) hisR ?_
  intro p e s m args below meth c s₁ Bd hml0 hP hK
  obtain ⟨rfl, hZ, hh⟩ := hP
  have hx := Bd.exec
  have hby := Bd.bytes
  have hlk : meth.locks = false := BodyLoose.notSynchronized Bd
  have hml : c.maxLocals = 3 := hml0
  have hown : s.vm.findClass "com/example/libsortkey/libsortkey/values/AtomicType" = some m.cls := findClass_of_methodNamed Bd.named
  have hnm := (name_of_methodNamed Bd.named Bd.method).1
  have X0 : Stand p l e ({ frames := 0, cells := 0, slots := 0, locals := 0 } : Room) s m #[(.ref r_DAY_TIME_DURATION), (.ref t)] below meth c s₁ [] 0 0 := Stand.of_body Bd
  have e0 : s₁.heap = h0 := by rw [← hh, Bd.state]; rfl
  have N0 := Fr.nil n0
  show own_Go p e below (own_K s (Q_pr12 Z jt h0 n0) ({ frames := 0, cells := 0, slots := 0, locals := 0 } : Room).cells ({ frames := 0, cells := 0, slots := 0, locals := 0 } : Room).slots) (s₁.setTop (entryFrame m #[(.ref r_DAY_TIME_DURATION), (.ref t)] 3))
  rw [(by first | (simp [entryFrame, mkF, argsToLocals, Value.category]; done) | rfl : entryFrame m #[(.ref r_DAY_TIME_DURATION), (.ref t)] 3 = mkF m 0 #[.val (.ref r_DAY_TIME_DURATION), .val (.ref t), .unset] [])]
  show own_Go p e below _ (s₁.setTop (mkF m 0 #[.val (.ref r_DAY_TIME_DURATION), .val (.ref t), .unset] []))
  refine own_go (fun _ hr => XS.aloadN X0.here hx rfl (hb hby own_d_prog_17_method_10_code_0) rfl rfl (XS.astoreN X0.here hx rfl (hb hby own_d_prog_17_method_10_code_1) rfl rfl (l' := #[.val (.ref r_DAY_TIME_DURATION), .val (.ref t), .val (.ref r_DAY_TIME_DURATION)]) rfl (XS.aloadN X0.here hx rfl (hb hby own_d_prog_17_method_10_code_2) rfl rfl hr))) ?_
  show own_Go p e below _ (s₁.setTop (mkF m 3 #[.val (.ref r_DAY_TIME_DURATION), .val (.ref t), .val (.ref r_DAY_TIME_DURATION)] [(.ref r_DAY_TIME_DURATION)]))
  refine own_go (fun _ hr => XS.ifnullNo X0.here hx rfl (hb hby own_d_prog_17_method_10_code_3) rfl hr) ?_
  show own_Go p e below _ (s₁.setTop (mkF m 6 #[.val (.ref r_DAY_TIME_DURATION), .val (.ref t), .val (.ref r_DAY_TIME_DURATION)] []))
  refine own_go (fun _ hr => XS.aloadN X0.here hx rfl (hb hby own_d_prog_17_method_10_code_6) rfl rfl (XS.aloadN X0.here hx rfl (hb hby own_d_prog_17_method_10_code_7) rfl rfl hr)) ?_
  show own_Go p e below _ (s₁.setTop (mkF m 8 #[.val (.ref r_DAY_TIME_DURATION), .val (.ref t), .val (.ref r_DAY_TIME_DURATION)] [(.ref t), (.ref r_DAY_TIME_DURATION)]))
  by_cases c1 : r_DAY_TIME_DURATION = t
  · refine own_go (fun _ hr => Jvm.RoadKit.acmp X0 hx rfl rfl rfl (pc0 := 8) (pc' := 11) (same := true) rfl (hb hby own_d_prog_17_method_10_code_8) rfl (decide_eq_true (congrArg Value.ref c1)) (by decide) (by decide) hr) ?_
    show own_Go p e below _ (s₁.setTop (mkF m 11 #[.val (.ref r_DAY_TIME_DURATION), .val (.ref t), .val (.ref r_DAY_TIME_DURATION)] []))
    refine own_go (fun _ hr => XS.iconst X0.here hx rfl (hb hby own_d_prog_17_method_10_code_11) hr) ?_
    show own_Go p e below _ (s₁.setTop (mkF m 12 #[.val (.ref r_DAY_TIME_DURATION), .val (.ref t), .val (.ref r_DAY_TIME_DURATION)] [(.int (1 : Int32))]))
    have hq12 : jt = (12 : Int32) := H_DAY_TIME_DURATION.mp c1
    exact own_retN X0 hx hlk Bd.returns (t := .boolean) (by simp) (hb hby own_d_prog_17_method_10_code_12) (by decide) (by decide) ⟨(show some (Value.int (1 : Int32)) = some (Value.int (own_p12 jt)) by simp [own_p12, hq12]), N0, e0⟩
  refine own_go (fun _ hr => Jvm.RoadKit.acmp X0 hx rfl rfl rfl (pc0 := 8) (pc' := 13) (same := false) rfl (hb hby own_d_prog_17_method_10_code_8) rfl (decide_eq_false fun q => c1 (Value.ref.inj q)) (by decide) (by decide) hr) ?_
  show own_Go p e below _ (s₁.setTop (mkF m 13 #[.val (.ref r_DAY_TIME_DURATION), .val (.ref t), .val (.ref r_DAY_TIME_DURATION)] []))
  refine own_go (fun _ hr => XS.aloadN X0.here hx rfl (hb hby own_d_prog_17_method_10_code_13) rfl rfl hr) ?_
  show own_Go p e below _ (s₁.setTop (mkF m 14 #[.val (.ref r_DAY_TIME_DURATION), .val (.ref t), .val (.ref r_DAY_TIME_DURATION)] [(.ref r_DAY_TIME_DURATION)]))
  obtain ⟨T2, X2, e2, st2⟩ := getF X0 hx hZ hown (host := "") (Or.inl (hw _ (own_m 50 rfl))) Via.refl e0 F_DAY_TIME_DURATION_promotion (g := (mkF m 14 #[.val (.ref r_DAY_TIME_DURATION), .val (.ref t), .val (.ref r_DAY_TIME_DURATION)] [(.ref r_DAY_TIME_DURATION)])) rfl rfl (hb hby own_d_prog_17_method_10_code_14)
  refine own_go st2 ?_
  show own_Go p e below _ (T2.setTop (mkF m 17 #[.val (.ref r_DAY_TIME_DURATION), .val (.ref t), .val (.ref r_DAY_TIME_DURATION)] [.null]))
  refine own_go (fun _ hr => XS.astoreN X2.here hx rfl (hb hby own_d_prog_17_method_10_code_17) rfl rfl (l' := #[.val (.ref r_DAY_TIME_DURATION), .val (.ref t), .val .null]) rfl (XS.goto X2.here hx rfl (pc0 := 18) (pc' := 2) rfl (hb hby own_d_prog_17_method_10_code_18) (by decide) (by decide) (XS.aloadN X2.here hx rfl (hb hby own_d_prog_17_method_10_code_2) rfl rfl hr))) ?_
  show own_Go p e below _ (T2.setTop (mkF m 3 #[.val (.ref r_DAY_TIME_DURATION), .val (.ref t), .val .null] [.null]))
  refine own_go (fun _ hr => XS.ifnullYes X2.here hx rfl (pc0 := 3) (pc' := 21) rfl (hb hby own_d_prog_17_method_10_code_3) rfl (by decide) (by decide) hr) ?_
  show own_Go p e below _ (T2.setTop (mkF m 21 #[.val (.ref r_DAY_TIME_DURATION), .val (.ref t), .val .null] []))
  refine own_go (fun _ hr => XS.iconst X2.here hx rfl (hb hby own_d_prog_17_method_10_code_21) hr) ?_
  show own_Go p e below _ (T2.setTop (mkF m 22 #[.val (.ref r_DAY_TIME_DURATION), .val (.ref t), .val .null] [(.int (0 : Int32))]))
  have hq12 : ¬ (jt = (12 : Int32)) := fun q => c1 (H_DAY_TIME_DURATION.mpr q)
  exact own_retN X2 hx hlk Bd.returns (t := .boolean) (by simp) (hb hby own_d_prog_17_method_10_code_22) (by decide) (by decide) ⟨(show some (Value.int (0 : Int32)) = some (Value.int (own_p12 jt)) by simp [own_p12, hq12]), N0, e2⟩
def own_p13 (j : Int32) : Int32 := if j = 13 then 1 else 0
def Q_pr13 (Z : State) (jt : Int32) (h0 : Heap) (n0 : Nat) (v : Option Value) (h : Heap) (L : List Loc) : Prop := v = some (.int (own_p13 jt)) ∧ Fr n0 L ∧ h = h0
set_option maxRecDepth 65536 in
set_option maxHeartbeats 40000000 in
theorem rm_pr13 (l : Launch) (Z : State) (a0 : Array Value) (hw : ∀ d ∈ tables_1, d.before a0 Z = true) (ws : List Jvm.Cond) (r_DURATION : Addr) (t : Addr) (jt : Int32) (h0 : Heap) (n0 : Nat) (Z0 : n0 ≤ h0.size) (F_DURATION_promotion : Fld Z h0 r_DURATION "com/example/libsortkey/libsortkey/values/AtomicType" "promotion" "Lcom/example/libsortkey/libsortkey/values/AtomicType;" .null) (H_DURATION : r_DURATION = t ↔ jt = (13 : Int32)) :
    MetFree l (⟨"com/example/libsortkey/libsortkey/values/AtomicType", "promotesTo", "(Lcom/example/libsortkey/libsortkey/values/AtomicType;)Z"⟩ : MethodName) (head1 (Jvm.Cond.code (⟨"com/example/libsortkey/libsortkey/values/AtomicType", "promotesTo", "(Lcom/example/libsortkey/libsortkey/values/AtomicType;)Z"⟩ : MethodName) prog_17_method_10_code 3 (some .boolean) :: ws) ({ frames := 0, cells := 0, slots := 0, locals := 0 } : Room)) (fun aA U => aA = #[(.ref r_DURATION), (.ref t)] ∧ Z.Warmed39 U.vm ∧ U.heap = h0) (fun _ _ _ _ _ => True) (fun _ U o U' => ∃ v L, o = .returned v ∧ Q_pr13 Z jt h0 n0 v U'.heap L ∧ FrameEnd U o U' L ({ frames := 0, cells := 0, slots := 0, locals := 0 } : Room).cells ({ frames := 0, cells := 0, slots := 0, locals := 0 } : Room).slots) := by
  refine MetFree.of_bodySF (plainFor_of_name own_pn_com_example_libsortkey_libsortkey_values_AtomicType) hisR ?_
  intro p e s m args below meth c s₁ Bd hml0 hP hK
  obtain ⟨rfl, hZ, hh⟩ := hP
  have hx := Bd.exec
  have hby := Bd.bytes
  have hlk : meth.locks = false := BodyLoose.notSynchronized Bd
  have hml : c.maxLocals = 3 := hml0
  have hown : s.vm.findClass "com/example/libsortkey/libsortkey/values/AtomicType" = some m.cls := findClass_of_methodNamed Bd.named
  have hnm := (name_of_methodNamed Bd.named Bd.method).1
  have X0 : Stand p l e ({ frames := 0, cells := 0, slots := 0, locals := 0 } : Room) s m #[(.ref r_DURATION), (.ref t)] below meth c s₁ [] 0 0 := Stand.of_body Bd
  have e0 : s₁.heap = h0 := by rw [← hh, Bd.state]; rfl
  have N0 := Fr.nil n0
  show own_Go p e below (own_K s (Q_pr13 Z jt h0 n0) ({ frames := 0, cells := 0, slots := 0, locals := 0 } : Room).cells ({ frames := 0, cells := 0, slots := 0, locals := 0 } : Room).slots) (s₁.setTop (entryFrame m #[(.ref r_DURATION), (.ref t)] 3))
  rw [(by first | (simp [entryFrame, mkF, argsToLocals, Value.category]; done) | rfl : entryFrame m #[(.ref r_DURATION), (.ref t)] 3 = mkF m 0 #[.val (.ref r_DURATION), .val (.ref t), .unset] [])]
  show own_Go p e below _ (s₁.setTop (mkF m 0 #[.val (.ref r_DURATION), .val (.ref t), .unset] []))
  refine own_go (fun _ hr => XS.aloadN X0.here hx rfl (hb hby own_d_prog_17_method_10_code_0) rfl rfl (XS.astoreN X0.here hx rfl (hb hby own_d_prog_17_method_10_code_1) rfl rfl (l' := #[.val (.ref r_DURATION), .val (.ref t), .val (.ref r_DURATION)]) rfl (XS.aloadN X0.here hx rfl (hb hby own_d_prog_17_method_10_code_2) rfl rfl hr))) ?_
  show own_Go p e below _ (s₁.setTop (mkF m 3 #[.val (.ref r_DURATION), .val (.ref t), .val (.ref r_DURATION)] [(.ref r_DURATION)]))
  refine own_go (fun _ hr => XS.ifnullNo X0.here hx rfl (hb hby own_d_prog_17_method_10_code_3) rfl hr) ?_
  show own_Go p e below _ (s₁.setTop (mkF m 6 #[.val (.ref r_DURATION), .val (.ref t), .val (.ref r_DURATION)] []))
  refine own_go (fun _ hr => XS.aloadN X0.here hx rfl (hb hby own_d_prog_17_method_10_code_6) rfl rfl (XS.aloadN X0.here hx rfl (hb hby own_d_prog_17_method_10_code_7) rfl rfl hr)) ?_
  show own_Go p e below _ (s₁.setTop (mkF m 8 #[.val (.ref r_DURATION), .val (.ref t), .val (.ref r_DURATION)] [(.ref t), (.ref r_DURATION)]))
  by_cases c1 : r_DURATION = t
  · refine own_go (fun _ hr => Jvm.RoadKit.acmp X0 hx rfl rfl rfl (pc0 := 8) (pc' := 11) (same := true) rfl (hb hby own_d_prog_17_method_10_code_8) rfl (decide_eq_true (congrArg Value.ref c1)) (by decide) (by decide) hr) ?_
    show own_Go p e below _ (s₁.setTop (mkF m 11 #[.val (.ref r_DURATION), .val (.ref t), .val (.ref r_DURATION)] []))
    refine own_go (fun _ hr => XS.iconst X0.here hx rfl (hb hby own_d_prog_17_method_10_code_11) hr) ?_
    show own_Go p e below _ (s₁.setTop (mkF m 12 #[.val (.ref r_DURATION), .val (.ref t), .val (.ref r_DURATION)] [(.int (1 : Int32))]))
    have hq13 : jt = (13 : Int32) := H_DURATION.mp c1
    exact own_retN X0 hx hlk Bd.returns (t := .boolean) (by simp) (hb hby own_d_prog_17_method_10_code_12) (by decide) (by decide) ⟨(show some (Value.int (1 : Int32)) = some (Value.int (own_p13 jt)) by simp [own_p13, hq13]), N0, e0⟩
  refine own_go (fun _ hr => Jvm.RoadKit.acmp X0 hx rfl rfl rfl (pc0 := 8) (pc' := 13) (same := false) rfl (hb hby own_d_prog_17_method_10_code_8) rfl (decide_eq_false fun q => c1 (Value.ref.inj q)) (by decide) (by decide) hr) ?_
  show own_Go p e below _ (s₁.setTop (mkF m 13 #[.val (.ref r_DURATION), .val (.ref t), .val (.ref r_DURATION)] []))
  refine own_go (fun _ hr => XS.aloadN X0.here hx rfl (hb hby own_d_prog_17_method_10_code_13) rfl rfl hr) ?_
  show own_Go p e below _ (s₁.setTop (mkF m 14 #[.val (.ref r_DURATION), .val (.ref t), .val (.ref r_DURATION)] [(.ref r_DURATION)]))
  obtain ⟨T2, X2, e2, st2⟩ := getF X0 hx hZ hown (host := "") (Or.inl (hw _ (own_m 50 rfl))) Via.refl e0 F_DURATION_promotion (g := (mkF m 14 #[.val (.ref r_DURATION), .val (.ref t), .val (.ref r_DURATION)] [(.ref r_DURATION)])) rfl rfl (hb hby own_d_prog_17_method_10_code_14)
  refine own_go st2 ?_
  show own_Go p e below _ (T2.setTop (mkF m 17 #[.val (.ref r_DURATION), .val (.ref t), .val (.ref r_DURATION)] [.null]))
  refine own_go (fun _ hr => XS.astoreN X2.here hx rfl (hb hby own_d_prog_17_method_10_code_17) rfl rfl (l' := #[.val (.ref r_DURATION), .val (.ref t), .val .null]) rfl (XS.goto X2.here hx rfl (pc0 := 18) (pc' := 2) rfl (hb hby own_d_prog_17_method_10_code_18) (by decide) (by decide) (XS.aloadN X2.here hx rfl (hb hby own_d_prog_17_method_10_code_2) rfl rfl hr))) ?_
  show own_Go p e below _ (T2.setTop (mkF m 3 #[.val (.ref r_DURATION), .val (.ref t), .val .null] [.null]))
  refine own_go (fun _ hr => XS.ifnullYes X2.here hx rfl (pc0 := 3) (pc' := 21) rfl (hb hby own_d_prog_17_method_10_code_3) rfl (by decide) (by decide) hr) ?_
  show own_Go p e below _ (T2.setTop (mkF m 21 #[.val (.ref r_DURATION), .val (.ref t), .val .null] []))
  refine own_go (fun _ hr => XS.iconst X2.here hx rfl (hb hby own_d_prog_17_method_10_code_21) hr) ?_
  show own_Go p e below _ (T2.setTop (mkF m 22 #[.val (.ref r_DURATION), .val (.ref t), .val .null] [(.int (0 : Int32))]))
  have hq13 : ¬ (jt = (13 : Int32)) := fun q => c1 (H_DURATION.mpr q)
  exact own_retN X2 hx hlk Bd.returns (t := .boolean) (by simp) (hb hby own_d_prog_17_method_10_code_22) (by decide) (by decide) ⟨(show some (Value.int (0 : Int32)) = some (Value.int (own_p13 jt)) by simp [own_p13, hq13]), N0, e2⟩
def own_p14 (j : Int32) : Int32 := if j = 14 then 1 else 0
def Q_pr14 (Z : State) (jt : Int32) (h0 : Heap) (n0 : Nat) (v : Option Value) (h : Heap) (L : List Loc) : Prop := v = some (.int (own_p14 jt)) ∧ Fr n0 L ∧ h = h0
set_option maxRecDepth 65536 in
set_option maxHeartbeats 40000000 in
theorem rm_pr14 (l : Launch) (Z : State) (a0 : Array Value) (hw : ∀ d ∈ tables_1, d.before a0 Z = true) (ws : List Jvm.Cond) (r_G_YEAR_MONTH : Addr) (t : Addr) (jt : Int32) (h0 : Heap) (n0 : Nat) (Z0 : n0 ≤ h0.size) (F_G_YEAR_MONTH_promotion : Fld Z h0 r_G_YEAR_MONTH "com/example/libsortkey/libsortkey/values/AtomicType" "promotion" "Lcom/example/libsortkey/libsortkey/values/AtomicType;" .null) (H_G_YEAR_MONTH : r_G_YEAR_MONTH = t ↔ jt = (14 : Int32)) :
    MetFree l (⟨"com/example/libsortkey/libsortkey/values/AtomicType", "promotesTo", "(Lcom/example/libsortkey/libsortkey/values/AtomicType;)Z"⟩ : MethodName) (head1 (Jvm.Cond.code (⟨"com/example/libsortkey/libsortkey/values/AtomicType", "promotesTo", "(Lcom/example/libsortkey/libsortkey/values/AtomicType;)Z"⟩ : MethodName) prog_17_method_10_code 3 (some .boolean) :: ws) ({ frames := 0, cells := 0, slots := 0, locals := 0 } : Room)) (fun aA U => aA = #[(.ref r_G_YEAR_MONTH), (.ref t)] ∧ Z.Warmed39 U.vm ∧ U.heap = h0) (fun _ _ _ _ _ => True) (fun _ U o U' => ∃ v L, o = .returned v ∧ Q_pr14 Z jt h0 n0 v U'.heap L ∧ FrameEnd U o U' L ({ frames := 0, cells := 0, slots := 0, locals := 0 } : Room).cells ({ frames := 0, cells := 0, slots := 0, locals := 0 } : Room).slots) := by
  refine MetFree.of_bodySF (plainFor_of_name own_pn_com_example_libsortkey_libsortkey_values_AtomicType) hisR ?_
  intro p e s m args below meth c s₁ Bd hml0 hP hK
  obtain ⟨rfl, hZ, hh⟩ := hP
  have hx := Bd.exec
  have hby := Bd.bytes
  have hlk : meth.locks = false := BodyLoose.notSynchronized Bd
  have hml : c.maxLocals = 3 := hml0
  have hown : s.vm.findClass "com/example/libsortkey/libsortkey/values/AtomicType" = some m.cls := findClass_of_methodNamed Bd.named
  have hnm := (name_of_methodNamed Bd.named Bd.method).1
  have X0 : Stand p l e ({ frames := 0, cells := 0, slots := 0, locals := 0 } : Room) s m #[(.ref r_G_YEAR_MONTH), (.ref t)] below meth c s₁ [] 0 0 := Stand.of_body Bd
  have e0 : s₁.heap = h0 := by rw [← hh, Bd.state]; rfl
  have N0 := Fr.nil n0
  show own_Go p e below (own_K s (Q_pr14 Z jt h0 n0) ({ frames := 0, cells := 0, slots := 0, locals := 0 } : Room).cells ({ frames := 0, cells := 0, slots := 0, locals := 0 } : Room).slots) (s₁.setTop (entryFrame m #[(.ref r_G_YEAR_MONTH), (.ref t)] 3))
  rw [(by first | (simp [entryFrame, mkF, argsToLocals, Value.category]; done) | rfl : entryFrame m #[(.ref r_G_YEAR_MONTH), (.ref t)] 3 = mkF m 0 #[.val (.ref r_G_YEAR_MONTH), .val (.ref t), .unset] [])]
  show own_Go p e below _ (s₁.setTop (mkF m 0 #[.val (.ref r_G_YEAR_MONTH), .val (.ref t), .unset] []))
  refine own_go (fun _ hr => XS.aloadN X0.here hx rfl (hb hby own_d_prog_17_method_10_code_0) rfl rfl (XS.astoreN X0.here hx rfl (hb hby own_d_prog_17_method_10_code_1) rfl rfl (l' := #[.val (.ref r_G_YEAR_MONTH), .val (.ref t), .val (.ref r_G_YEAR_MONTH)]) rfl (XS.aloadN X0.here hx rfl (hb hby own_d_prog_17_method_10_code_2) rfl rfl hr))) ?_
  show own_Go p e below _ (s₁.setTop (mkF m 3 #[.val (.ref r_G_YEAR_MONTH), .val (.ref t), .val (.ref r_G_YEAR_MONTH)] [(.ref r_G_YEAR_MONTH)]))
  refine own_go (fun _ hr => XS.ifnullNo X0.here hx rfl (hb hby own_d_prog_17_method_10_code_3) rfl hr) ?_
  show own_Go p e below _ (s₁.setTop (mkF m 6 #[.val (.ref r_G_YEAR_MONTH), .val (.ref t), .val (.ref r_G_YEAR_MONTH)] []))
  refine own_go (fun _ hr => XS.aloadN X0.here hx rfl (hb hby own_d_prog_17_method_10_code_6) rfl rfl (XS.aloadN X0.here hx rfl (hb hby own_d_prog_17_method_10_code_7) rfl rfl hr)) ?_
  show own_Go p e below _ (s₁.setTop (mkF m 8 #[.val (.ref r_G_YEAR_MONTH), .val (.ref t), .val (.ref r_G_YEAR_MONTH)] [(.ref t), (.ref r_G_YEAR_MONTH)]))
  by_cases c1 : r_G_YEAR_MONTH = t
  · refine own_go (fun _ hr => Jvm.RoadKit.acmp X0 hx rfl rfl rfl (pc0 := 8) (pc' := 11) (same := true) rfl (hb hby own_d_prog_17_method_10_code_8) rfl (decide_eq_true (congrArg Value.ref c1)) (by decide) (by decide) hr) ?_
    show own_Go p e below _ (s₁.setTop (mkF m 11 #[.val (.ref r_G_YEAR_MONTH), .val (.ref t), .val (.ref r_G_YEAR_MONTH)] []))
    refine own_go (fun _ hr => XS.iconst X0.here hx rfl (hb hby own_d_prog_17_method_10_code_11) hr) ?_
    show own_Go p e below _ (s₁.setTop (mkF m 12 #[.val (.ref r_G_YEAR_MONTH), .val (.ref t), .val (.ref r_G_YEAR_MONTH)] [(.int (1 : Int32))]))
    have hq14 : jt = (14 : Int32) := H_G_YEAR_MONTH.mp c1
    exact own_retN X0 hx hlk Bd.returns (t := .boolean) (by simp) (hb hby own_d_prog_17_method_10_code_12) (by decide) (by decide) ⟨(show some (Value.int (1 : Int32)) = some (Value.int (own_p14 jt)) by simp [own_p14, hq14]), N0, e0⟩
  refine own_go (fun _ hr => Jvm.RoadKit.acmp X0 hx rfl rfl rfl (pc0 := 8) (pc' := 13) (same := false) rfl (hb hby own_d_prog_17_method_10_code_8) rfl (decide_eq_false fun q => c1 (Value.ref.inj q)) (by decide) (by decide) hr) ?_
  show own_Go p e below _ (s₁.setTop (mkF m 13 #[.val (.ref r_G_YEAR_MONTH), .val (.ref t), .val (.ref r_G_YEAR_MONTH)] []))
  refine own_go (fun _ hr => XS.aloadN X0.here hx rfl (hb hby own_d_prog_17_method_10_code_13) rfl rfl hr) ?_
  show own_Go p e below _ (s₁.setTop (mkF m 14 #[.val (.ref r_G_YEAR_MONTH), .val (.ref t), .val (.ref r_G_YEAR_MONTH)] [(.ref r_G_YEAR_MONTH)]))
  obtain ⟨T2, X2, e2, st2⟩ := getF X0 hx hZ hown (host := "") (Or.inl (hw _ (own_m 50 rfl))) Via.refl e0 F_G_YEAR_MONTH_promotion (g := (mkF m 14 #[.val (.ref r_G_YEAR_MONTH), .val (.ref t), .val (.ref r_G_YEAR_MONTH)] [(.ref r_G_YEAR_MONTH)])) rfl rfl (hb hby own_d_prog_17_method_10_code_14)
  refine own_go st2 ?_
  show own_Go p e below _ (T2.setTop (mkF m 17 #[.val (.ref r_G_YEAR_MONTH), .val (.ref t), .val (.ref r_G_YEAR_MONTH)] [.null]))
  refine own_go (fun _ hr => XS.astoreN X2.here hx rfl (hb hby own_d_prog_17_method_10_code_17) rfl rfl (l' := #[.val (.ref r_G_YEAR_MONTH), .val (.ref t), .val .null]) rfl (XS.goto X2.here hx rfl (pc0 := 18) (pc' := 2) rfl (hb hby own_d_prog_17_method_10_code_18) (by decide) (by decide) (XS.aloadN X2.here hx rfl (hb hby own_d_prog_17_method_10_code_2) rfl rfl hr))) ?_
  show own_Go p e below _ (T2.setTop (mkF m 3 #[.val (.ref r_G_YEAR_MONTH), .val (.ref t), .val .null] [.null]))
  refine own_go (fun _ hr => XS.ifnullYes X2.here hx rfl (pc0 := 3) (pc' := 21) rfl (hb hby own_d_prog_17_method_10_code_3) rfl (by decide) (by decide) hr) ?_
  show own_Go p e below _ (T2.setTop (mkF m 21 #[.val (.ref r_G_YEAR_MONTH), .val (.ref t), .val .null] []))
  refine own_go (fun _ hr => XS.iconst X2.here hx rfl (hb hby own_d_prog_17_method_10_code_21) hr) ?_
  show own_Go p e below _ (T2.setTop (mkF m 22 #[.val (.ref r_G_YEAR_MONTH), .val (.ref t), .val .null] [(.int (0 : Int32))]))
  have hq14 : ¬ (jt = (14 : Int32)) := fun q => c1 (H_G_YEAR_MONTH.mpr q)
  exact own_retN X2 hx hlk Bd.returns (t := .boolean) (by simp) (hb hby own_d_prog_17_method_10_code_22) (by decide) (by decide) ⟨(show some (Value.int (0 : Int32)) = some (Value.int (own_p14 jt)) by simp [own_p14, hq14]), N0, e2⟩
def own_p15 (j : Int32) : Int32 := if j = 15 then 1 else 0
def Q_pr15 (Z : State) (jt : Int32) (h0 : Heap) (n0 : Nat) (v : Option Value) (h : Heap) (L : List Loc) : Prop := v = some (.int (own_p15 jt)) ∧ Fr n0 L ∧ h = h0
set_option maxRecDepth 65536 in
set_option maxHeartbeats 40000000 in
theorem rm_pr15 (l : Launch) (Z : State) (a0 : Array Value) (hw : ∀ d ∈ tables_1, d.before a0 Z = true) (ws : List Jvm.Cond) (r_G_YEAR : Addr) (t : Addr) (jt : Int32) (h0 : Heap) (n0 : Nat) (Z0 : n0 ≤ h0.size) (F_G_YEAR_promotion : Fld Z h0 r_G_YEAR "com/example/libsortkey/libsortkey/values/AtomicType" "promotion" "Lcom/example/libsortkey/libsortkey/values/AtomicType;" .null) (H_G_YEAR : r_G_YEAR = t ↔ jt = (15 : Int32)) :
    MetFree l (⟨"com/example/libsortkey/libsortkey/values/AtomicType", "promotesTo", "(Lcom/example/libsortkey/libsortkey/values/AtomicType;)Z"⟩ : MethodName) (head1 (Jvm.Cond.code (⟨"com/example/libsortkey/libsortkey/values/AtomicType", "promotesTo", "(Lcom/example/libsortkey/libsortkey/values/AtomicType;)Z"⟩ : MethodName) prog_17_method_10_code 3 (some .boolean) :: ws) ({ frames := 0, cells := 0, slots := 0, locals := 0 } : Room)) (fun aA U => aA = #[(.ref r_G_YEAR), (.ref t)] ∧ Z.Warmed39 U.vm ∧ U.heap = h0) (fun _ _ _ _ _ => True) (fun _ U o U' => ∃ v L, o = .returned v ∧ Q_pr15 Z jt h0 n0 v U'.heap L ∧ FrameEnd U o U' L ({ frames := 0, cells := 0, slots := 0, locals := 0 } : Room).cells ({ frames := 0, cells := 0, slots := 0, locals := 0 } : Room).slots) := by
  refine MetFree.of_bodySF (plainFor_of_name own_pn_com_example_libsortkey_libsortkey_values_AtomicType) hisR ?_
  intro p e s m args below meth c s₁ Bd hml0 hP hK
  obtain ⟨rfl, hZ, hh⟩ := hP
  have hx := Bd.exec
  have hby := Bd.bytes
  have hlk : meth.locks = false := BodyLoose.notSynchronized Bd
  have hml : c.maxLocals = 3 := hml0
  have hown : s.vm.findClass "com/example/libsortkey/libsortkey/values/AtomicType" = some m.cls := findClass_of_methodNamed Bd.named
  have hnm := (name_of_methodNamed Bd.named Bd.method).1
  have X0 : Stand p l e ({ frames := 0, cells := 0, slots := 0, locals := 0 } : Room) s m #[(.ref r_G_YEAR), (.ref t)] below meth c s₁ [] 0 0 := Stand.of_body Bd
  have e0 : s₁.heap = h0 := by rw [← hh, Bd.state]; rfl
  have N0 := Fr.nil n0
  show own_Go p e below (own_K s (Q_pr15 Z jt h0 n0) ({ frames := 0, cells := 0, slots := 0, locals := 0 } : Room).cells ({ frames := 0, cells := 0, slots := 0, locals := 0 } : Room).slots) (s₁.setTop (entryFrame m #[(.ref r_G_YEAR), (.ref t)] 3))
  rw [(by first | (simp [entryFrame, mkF, argsToLocals, Value.category]; done) | rfl : entryFrame m #[(.ref r_G_YEAR), (.ref t)] 3 = mkF m 0 #[.val (.ref r_G_YEAR), .val (.ref t), .unset] [])]
  show own_Go p e below _ (s₁.setTop (mkF m 0 #[.val (.ref r_G_YEAR), .val (.ref t), .unset] []))
  refine own_go (fun _ hr => XS.aloadN X0.here hx rfl (hb hby own_d_prog_17_method_10_code_0) rfl rfl (XS.astoreN X0.here hx rfl (hb hby own_d_prog_17_method_10_code_1) rfl rfl (l' := #[.val (.ref r_G_YEAR), .val (.ref t), .val (.ref r_G_YEAR)]) rfl (XS.aloadN X0.here hx rfl (hb hby own_d_prog_17_method_10_code_2) rfl rfl hr))) ?_
  show own_Go p e below _ (s₁.setTop (mkF m 3 #[.val (.ref r_G_YEAR), .val (.ref t), .val (.ref r_G_YEAR)] [(.ref r_G_YEAR)]))
  refine own_go (fun _ hr => XS.ifnullNo X0.here hx rfl (hb hby own_d_prog_17_method_10_code_3) rfl hr) ?_
  show own_Go p e below _ (s₁.setTop (mkF m 6 #[.val (.ref r_G_YEAR), .val (.ref t), .val (.ref r_G_YEAR)] []))
  refine own_go (fun _ hr => XS.aloadN X0.here hx rfl (hb hby own_d_prog_17_method_10_code_6) rfl rfl (XS.aloadN X0.here hx rfl (hb hby own_d_prog_17_method_10_code_7) rfl rfl hr)) ?_
  show own_Go p e below _ (s₁.setTop (mkF m 8 #[.val (.ref r_G_YEAR), .val (.ref t), .val (.ref r_G_YEAR)] [(.ref t), (.ref r_G_YEAR)]))
  by_cases c1 : r_G_YEAR = t
  · refine own_go (fun _ hr => Jvm.RoadKit.acmp X0 hx rfl rfl rfl (pc0 := 8) (pc' := 11) (same := true) rfl (hb hby own_d_prog_17_method_10_code_8) rfl (decide_eq_true (congrArg Value.ref c1)) (by decide) (by decide) hr) ?_
    show own_Go p e below _ (s₁.setTop (mkF m 11 #[.val (.ref r_G_YEAR), .val (.ref t), .val (.ref r_G_YEAR)] []))
    refine own_go (fun _ hr => XS.iconst X0.here hx rfl (hb hby own_d_prog_17_method_10_code_11) hr) ?_
    show own_Go p e below _ (s₁.setTop (mkF m 12 #[.val (.ref r_G_YEAR), .val (.ref t), .val (.ref r_G_YEAR)] [(.int (1 : Int32))]))
    have hq15 : jt = (15 : Int32) := H_G_YEAR.mp c1
    exact own_retN X0 hx hlk Bd.returns (t := .boolean) (by simp) (hb hby own_d_prog_17_method_10_code_12) (by decide) (by decide) ⟨(show some (Value.int (1 : Int32)) = some (Value.int (own_p15 jt)) by simp [own_p15, hq15]), N0, e0⟩
  refine own_go (fun _ hr => Jvm.RoadKit.acmp X0 hx rfl rfl rfl (pc0 := 8) (pc' := 13) (same := false) rfl (hb hby own_d_prog_17_method_10_code_8) rfl (decide_eq_false fun q => c1 (Value.ref.inj q)) (by decide) (by decide) hr) ?_
  show own_Go p e below _ (s₁.setTop (mkF m 13 #[.val (.ref r_G_YEAR), .val (.ref t), .val (.ref r_G_YEAR)] []))
  refine own_go (fun _ hr => XS.aloadN X0.here hx rfl (hb hby own_d_prog_17_method_10_code_13) rfl rfl hr) ?_
  show own_Go p e below _ (s₁.setTop (mkF m 14 #[.val (.ref r_G_YEAR), .val (.ref t), .val (.ref r_G_YEAR)] [(.ref r_G_YEAR)]))
  obtain ⟨T2, X2, e2, st2⟩ := getF X0 hx hZ hown (host := "") (Or.inl (hw _ (own_m 50 rfl))) Via.refl e0 F_G_YEAR_promotion (g := (mkF m 14 #[.val (.ref r_G_YEAR), .val (.ref t), .val (.ref r_G_YEAR)] [(.ref r_G_YEAR)])) rfl rfl (hb hby own_d_prog_17_method_10_code_14)
  refine own_go st2 ?_
  show own_Go p e below _ (T2.setTop (mkF m 17 #[.val (.ref r_G_YEAR), .val (.ref t), .val (.ref r_G_YEAR)] [.null]))
  refine own_go (fun _ hr => XS.astoreN X2.here hx rfl (hb hby own_d_prog_17_method_10_code_17) rfl rfl (l' := #[.val (.ref r_G_YEAR), .val (.ref t), .val .null]) rfl (XS.goto X2.here hx rfl (pc0 := 18) (pc' := 2) rfl (hb hby own_d_prog_17_method_10_code_18) (by decide) (by decide) (XS.aloadN X2.here hx rfl (hb hby own_d_prog_17_method_10_code_2) rfl rfl hr))) ?_
  show own_Go p e below _ (T2.setTop (mkF m 3 #[.val (.ref r_G_YEAR), .val (.ref t), .val .null] [.null]))
  refine own_go (fun _ hr => XS.ifnullYes X2.here hx rfl (pc0 := 3) (pc' := 21) rfl (hb hby own_d_prog_17_method_10_code_3) rfl (by decide) (by decide) hr) ?_
  show own_Go p e below _ (T2.setTop (mkF m 21 #[.val (.ref r_G_YEAR), .val (.ref t), .val .null] []))
  refine own_go (fun _ hr => XS.iconst X2.here hx rfl (hb hby own_d_prog_17_method_10_code_21) hr) ?_
  show own_Go p e below _ (T2.setTop (mkF m 22 #[.val (.ref r_G_YEAR), .val (.ref t), .val .null] [(.int (0 : Int32))]))
  have hq15 : ¬ (jt = (15 : Int32)) := fun q => c1 (H_G_YEAR.mpr q)
  exact own_retN X2 hx hlk Bd.returns (t := .boolean) (by simp) (hb hby own_d_prog_17_method_10_code_22) (by decide) (by decide) ⟨(show some (Value.int (0 : Int32)) = some (Value.int (own_p15 jt)) by simp [own_p15, hq15]), N0, e2⟩
def own_p16 (j : Int32) : Int32 := if j = 16 then 1 else 0
def Q_pr16 (Z : State) (jt : Int32) (h0 : Heap) (n0 : Nat) (v : Option Value) (h : Heap) (L : List Loc) : Prop := v = some (.int (own_p16 jt)) ∧ Fr n0 L ∧ h = h0
set_option maxRecDepth 65536 in
set_option maxHeartbeats 40000000 in
theorem rm_pr16 (l : Launch) (Z : State) (a0 : Array Value) (hw : ∀ d ∈ tables_1, d.before a0 Z = true) (ws : List Jvm.Cond) (r_G_MONTH_DAY : Addr) (t : Addr) (jt : Int32) (h0 : Heap) (n0 : Nat) (Z0 : n0 ≤ h0.size) (F_G_MONTH_DAY_promotion : Fld Z h0 r_G_MONTH_DAY "com/example/libsortkey/libsortkey/values/AtomicType" "promotion" "Lcom/example/libsortkey/libsortkey/values/AtomicType;" .null) (H_G_MONTH_DAY : r_G_MONTH_DAY = t ↔ jt = (16 : Int32)) :
    MetFree l (⟨"com/example/libsortkey/libsortkey/values/AtomicType", "promotesTo", "(Lcom/example/libsortkey/libsortkey/values/AtomicType;)Z"⟩ : MethodName) (head1 (Jvm.Cond.code (⟨"com/example/libsortkey/libsortkey/values/AtomicType", "promotesTo", "(Lcom/example/libsortkey/libsortkey/values/AtomicType;)Z"⟩ : MethodName) prog_17_method_10_code 3 (some .boolean) :: ws) ({ frames := 0, cells := 0, slots := 0, locals := 0 } : Room)) (fun aA U => aA = #[(.ref r_G_MONTH_DAY), (.ref t)] ∧ Z.Warmed39 U.vm ∧ U.heap = h0) (fun _ _ _ _ _ => True) (fun _ U o U' => ∃ v L, o = .returned v ∧ Q_pr16 Z jt h0 n0 v U'.heap L ∧ FrameEnd U o U' L ({ frames := 0, cells := 0, slots := 0, locals := 0 } : Room).cells ({ frames := 0, cells := 0, slots := 0, locals := 0 } : Room).slots) := by
  refine MetFree.of_bodySF (plainFor_of_name own_pn_com_example_libsortkey_libsortkey_values_AtomicType) hisR ?_
  intro p e s m args below meth c s₁ Bd hml0 hP hK
  obtain ⟨rfl, hZ, hh⟩ := hP
  have hx := Bd.exec
  have hby := Bd.bytes
  have hlk : meth.locks = false := BodyLoose.notSynchronized Bd
  have hml : c.maxLocals = 3 := hml0
  have hown : s.vm.findClass "com/example/libsortkey/libsortkey/values/AtomicType" = some m.cls := findClass_of_methodNamed Bd.named
  have hnm := (name_of_methodNamed Bd.named Bd.method).1
  have X0 : Stand p l e ({ frames := 0, cells := 0, slots := 0, locals := 0 } : Room) s m #[(.ref r_G_MONTH_DAY), (.ref t)] below meth c s₁ [] 0 0 := Stand.of_body Bd
  have e0 : s₁.heap = h0 := by rw [← hh, Bd.state]; rfl
  have N0 := Fr.nil n0
  show own_Go p e below (own_K s (Q_pr16 Z jt h0 n0) ({ frames := 0, cells := 0, slots := 0, locals := 0 } : Room).cells ({ frames := 0, cells := 0, slots := 0, locals := 0 } : Room).slots) (s₁.setTop (entryFrame m #[(.ref r_G_MONTH_DAY), (.ref t)] 3))
  rw [(by first | (simp [entryFrame, mkF, argsToLocals, Value.category]; done) | rfl : entryFrame m #[(.ref r_G_MONTH_DAY), (.ref t)] 3 = mkF m 0 #[.val (.ref r_G_MONTH_DAY), .val (.ref t), .unset] [])]
  show own_Go p e below _ (s₁.setTop (mkF m 0 #[.val (.ref r_G_MONTH_DAY), .val (.ref t), .unset] []))
  refine own_go (fun _ hr => XS.aloadN X0.here hx rfl (hb hby own_d_prog_17_method_10_code_0) rfl rfl (XS.astoreN X0.here hx rfl (hb hby own_d_prog_17_method_10_code_1) rfl rfl (l' := #[.val (.ref r_G_MONTH_DAY), .val (.ref t), .val (.ref r_G_MONTH_DAY)]) rfl (XS.aloadN X0.here hx rfl (hb hby own_d_prog_17_method_10_code_2) rfl rfl hr))) ?_
  show own_Go p e below _ (s₁.setTop (mkF m 3 #[.val (.ref r_G_MONTH_DAY), .val (.ref t), .val (.ref r_G_MONTH_DAY)] [(.ref r_G_MONTH_DAY)]))
  refine own_go (fun _ hr => XS.ifnullNo X0.here hx rfl (hb hby own_d_prog_17_method_10_code_3) rfl hr) ?_
  show own_Go p e below _ (s₁.setTop (mkF m 6 #[.val (.ref r_G_MONTH_DAY), .val (.ref t), .val (.ref r_G_MONTH_DAY)] []))
  refine own_go (fun _ hr => XS.aloadN X0.here hx rfl (hb hby own_d_prog_17_method_10_code_6) rfl rfl (XS.aloadN X0.here hx rfl (hb hby own_d_prog_17_method_10_code_7) rfl rfl hr)) ?_
  show own_Go p e below _ (s₁.setTop (mkF m 8 #[.val (.ref r_G_MONTH_DAY), .val (.ref t), .val (.ref r_G_MONTH_DAY)] [(.ref t), (.ref r_G_MONTH_DAY)]))
  by_cases c1 : r_G_MONTH_DAY = t
  · refine own_go (fun _ hr => Jvm.RoadKit.acmp X0 hx rfl rfl rfl (pc0 := 8) (pc' := 11) (same := true) rfl (hb hby own_d_prog_17_method_10_code_8) rfl (decide_eq_true (congrArg Value.ref c1)) (by decide) (by decide) hr) ?_
    show own_Go p e below _ (s₁.setTop (mkF m 11 #[.val (.ref r_G_MONTH_DAY), .val (.ref t), .val (.ref r_G_MONTH_DAY)] []))
    refine own_go (fun _ hr => XS.iconst X0.here hx rfl (hb hby own_d_prog_17_method_10_code_11) hr) ?_
    show own_Go p e below _ (s₁.setTop (mkF m 12 #[.val (.ref r_G_MONTH_DAY), .val (.ref t), .val (.ref r_G_MONTH_DAY)] [(.int (1 : Int32))]))
    have hq16 : jt = (16 : Int32) := H_G_MONTH_DAY.mp c1
    exact own_retN X0 hx hlk Bd.returns (t := .boolean) (by simp) (hb hby own_d_prog_17_method_10_code_12) (by decide) (by decide) ⟨(show some (Value.int (1 : Int32)) = some (Value.int (own_p16 jt)) by simp [own_p16, hq16]), N0, e0⟩
  refine own_go (fun _ hr => Jvm.RoadKit.acmp X0 hx rfl rfl rfl (pc0 := 8) (pc' := 13) (same := false) rfl (hb hby own_d_prog_17_method_10_code_8) rfl (decide_eq_false fun q => c1 (Value.ref.inj q)) (by decide) (by decide) hr) ?_
  show own_Go p e below _ (s₁.setTop (mkF m 13 #[.val (.ref r_G_MONTH_DAY), .val (.ref t), .val (.ref r_G_MONTH_DAY)] []))
  refine own_go (fun _ hr => XS.aloadN X0.here hx rfl (hb hby own_d_prog_17_method_10_code_13) rfl rfl hr) ?_
  show own_Go p e below _ (s₁.setTop (mkF m 14 #[.val (.ref r_G_MONTH_DAY), .val (.ref t), .val (.ref r_G_MONTH_DAY)] [(.ref r_G_MONTH_DAY)]))
  obtain ⟨T2, X2, e2, st2⟩ := getF X0 hx hZ hown (host := "") (Or.inl (hw _ (own_m 50 rfl))) Via.refl e0 F_G_MONTH_DAY_promotion (g := (mkF m 14 #[.val (.ref r_G_MONTH_DAY), .val (.ref t), .val (.ref r_G_MONTH_DAY)] [(.ref r_G_MONTH_DAY)])) rfl rfl (hb hby own_d_prog_17_method_10_code_14)
  refine own_go st2 ?_
  show own_Go p e below _ (T2.setTop (mkF m 17 #[.val (.ref r_G_MONTH_DAY), .val (.ref t), .val (.ref r_G_MONTH_DAY)] [.null]))
  refine own_go (fun _ hr => XS.astoreN X2.here hx rfl (hb hby own_d_prog_17_method_10_code_17) rfl rfl (l' := #[.val (.ref r_G_MONTH_DAY), .val (.ref t), .val .null]) rfl (XS.goto X2.here hx rfl (pc0 := 18) (pc' := 2) rfl (hb hby own_d_prog_17_method_10_code_18) (by decide) (by decide) (XS.aloadN X2.here hx rfl (hb hby own_d_prog_17_method_10_code_2) rfl rfl hr))) ?_
  show own_Go p e below _ (T2.setTop (mkF m 3 #[.val (.ref r_G_MONTH_DAY), .val (.ref t), .val .null] [.null]))
  refine own_go (fun _ hr => XS.ifnullYes X2.here hx rfl (pc0 := 3) (pc' := 21) rfl (hb hby own_d_prog_17_method_10_code_3) rfl (by decide) (by decide) hr) ?_
  show own_Go p e below _ (T2.setTop (mkF m 21 #[.val (.ref r_G_MONTH_DAY), .val (.ref t), .val .null] []))
  refine own_go (fun _ hr => XS.iconst X2.here hx rfl (hb hby own_d_prog_17_method_10_code_21) hr) ?_
  show own_Go p e below _ (T2.setTop (mkF m 22 #[.val (.ref r_G_MONTH_DAY), .val (.ref t), .val .null] [(.int (0 : Int32))]))
  have hq16 : ¬ (jt = (16 : Int32)) := fun q => c1 (H_G_MONTH_DAY.mpr q)
  exact own_retN X2 hx hlk Bd.returns (t := .boolean) (by simp) (hb hby own_d_prog_17_method_10_code_22) (by decide) (by decide) ⟨(show some (Value.int (0 : Int32)) = some (Value.int (own_p16 jt)) by simp [own_p16, hq16]), N0, e2⟩
def own_p17 (j : Int32) : Int32 := if j = 17 then 1 else 0
def Q_pr17 (Z : State) (jt : Int32) (h0 : Heap) (n0 : Nat) (v : Option Value) (h : Heap) (L : List Loc) : Prop := v = some (.int (own_p17 jt)) ∧ Fr n0 L ∧ h = h0
set_option maxRecDepth 65536 in
set_option maxHeartbeats 40000000 in
theorem rm_pr17 (l : Launch) (Z : State) (a0 : Array Value) (hw : ∀ d ∈ tables_1, d.before a0 Z = true) (ws : List Jvm.Cond) (r_G_DAY : Addr) (t : Addr) (jt : Int32) (h0 : Heap) (n0 : Nat) (Z0 : n0 ≤ h0.size) (F_G_DAY_promotion : Fld Z h0 r_G_DAY "com/example/libsortkey/libsortkey/values/AtomicType" "promotion" "Lcom/example/libsortkey/libsortkey/values/AtomicType;" .null) (H_G_DAY : r_G_DAY = t ↔ jt = (17 : Int32)) :
    MetFree l (⟨"com/example/libsortkey/libsortkey/values/AtomicType", "promotesTo", "(Lcom/example/libsortkey/libsortkey/values/AtomicType;)Z"⟩ : MethodName) (head1 (Jvm.Cond.code (⟨"com/example/libsortkey/libsortkey/values/AtomicType", "promotesTo", "(Lcom/example/libsortkey/libsortkey/values/AtomicType;)Z"⟩ : MethodName) prog_17_method_10_code 3 (some .boolean) :: ws) ({ frames := 0, cells := 0, slots := 0, locals := 0 } : Room)) (fun aA U => aA = #[(.ref r_G_DAY), (.ref t)] ∧ Z.Warmed39 U.vm ∧ U.heap = h0) (fun _ _ _ _ _ => True) (fun _ U o U' => ∃ v L, o = .returned v ∧ Q_pr17 Z jt h0 n0 v U'.heap L ∧ FrameEnd U o U' L ({ frames := 0, cells := 0, slots := 0, locals := 0 } : Room).cells ({ frames := 0, cells := 0, slots := 0, locals := 0 } : Room).slots) := by
  refine MetFree.of_bodySF (plainFor_of_name own_pn_com_example_libsortkey_libsortkey_values_AtomicType) hisR ?_
  intro p e s m args below meth c s₁ Bd hml0 hP hK
  obtain ⟨rfl, hZ, hh⟩ := hP
  have hx := Bd.exec
  have hby := Bd.bytes
  have hlk : meth.locks = false := BodyLoose.notSynchronized Bd
  have hml : c.maxLocals = 3 := hml0
  have hown : s.vm.findClass "com/example/libsortkey/libsortkey/values/AtomicType" = some m.cls := findClass_of_methodNamed Bd.named
  have hnm := (name_of_methodNamed Bd.named Bd.method).1
  have X0 : Stand p l e ({ frames := 0, cells := 0, slots := 0, locals := 0 } : Room) s m #[(.ref r_G_DAY), (.ref t)] below meth c s₁ [] 0 0 := Stand.of_body Bd
  have e0 : s₁.heap = h0 := by rw [← hh, Bd.state]; rfl
  have N0 := Fr.nil n0
  show own_Go p e below (own_K s (Q_pr17 Z jt h0 n0) ({ frames := 0, cells := 0, slots := 0, locals := 0 } : Room).cells ({ frames := 0, cells := 0, slots := 0, locals := 0 } : Room).slots) (s₁.setTop (entryFrame m #[(.ref r_G_DAY), (.ref t)] 3))
  rw [(by first | (simp [entryFrame, mkF, argsToLocals, Value.category]; done) | rfl : entryFrame m #[(.ref r_G_DAY), (.ref t)] 3 = mkF m 0 #[.val (.ref r_G_DAY), .val (.ref t), .unset] [])]
  show own_Go p e below _ (s₁.setTop (mkF m 0 #[.val (.ref r_G_DAY), .val (.ref t), .unset] []))
  refine own_go (fun _ hr => XS.aloadN X0.here hx rfl (hb hby own_d_prog_17_method_10_code_0) rfl rfl (XS.astoreN X0.here hx rfl (hb hby own_d_prog_17_method_10_code_1) rfl rfl (l' := #[.val (.ref r_G_DAY), .val (.ref t), .val (.ref r_G_DAY)]) rfl (XS.aloadN X0.here hx rfl (hb hby own_d_prog_17_method_10_code_2) rfl rfl hr))) ?_
  show own_Go p e below _ (s₁.setTop (mkF m 3 #[.val (.ref r_G_DAY), .val (.ref t), .val (.ref r_G_DAY)] [(.ref r_G_DAY)]))
  refine own_go (fun _ hr => XS.ifnullNo X0.here hx rfl (hb hby own_d_prog_17_method_10_code_3) rfl hr) ?_
  show own_Go p e below _ (s₁.setTop (mkF m 6 #[.val (.ref r_G_DAY), .val (.ref t), .val (.ref r_G_DAY)] []))
  refine own_go (fun _ hr => XS.aloadN X0.here hx rfl (hb hby own_d_prog_17_method_10_code_6) rfl rfl (XS.aloadN X0.here hx rfl (hb hby own_d_prog_17_method_10_code_7) rfl rfl hr)) ?_
  show own_Go p e below _ (s₁.setTop (mkF m 8 #[.val (.ref r_G_DAY), .val (.ref t), .val (.ref r_G_DAY)] [(.ref t), (.ref r_G_DAY)]))
  by_cases c1 : r_G_DAY = t
  · refine own_go (fun _ hr => Jvm.RoadKit.acmp X0 hx rfl rfl rfl (pc0 := 8) (pc' := 11) (same := true) rfl (hb hby own_d_prog_17_method_10_code_8) rfl (decide_eq_true (congrArg Value.ref c1)) (by decide) (by decide) hr) ?_
    show own_Go p e below _ (s₁.setTop (mkF m 11 #[.val (.ref r_G_DAY), .val (.ref t), .val (.ref r_G_DAY)] []))
    refine own_go (fun _ hr => XS.iconst X0.here hx rfl (hb hby own_d_prog_17_method_10_code_11) hr) ?_
    show own_Go p e below _ (s₁.setTop (mkF m 12 #[.val (.ref r_G_DAY), .val (.ref t), .val (.ref r_G_DAY)] [(.int (1 : Int32))]))
    have hq17 : jt = (17 : Int32) := H_G_DAY.mp c1
    exact own_retN X0 hx hlk Bd.returns (t := .boolean) (by simp) (hb hby own_d_prog_17_method_10_code_12) (by decide) (by decide) ⟨(show some (Value.int (1 : Int32)) = some (Value.int (own_p17 jt)) by simp [own_p17, hq17]), N0, e0⟩
  refine own_go (fun _ hr => Jvm.RoadKit.acmp X0 hx rfl rfl rfl (pc0 := 8) (pc' := 13) (same := false) rfl (hb hby own_d_prog_17_method_10_code_8) rfl (decide_eq_false fun q => c1 (Value.ref.inj q)) (by decide) (by decide) hr) ?_
  show own_Go p e below _ (s₁.setTop (mkF m 13 #[.val (.ref r_G_DAY), .val (.ref t), .val (.ref r_G_DAY)] []))
  refine own_go (fun _ hr => XS.aloadN X0.here hx rfl (hb hby own_d_prog_17_method_10_code_13) rfl rfl hr) ?_
  show own_Go p e below _ (s₁.setTop (mkF m 14 #[.val (.ref r_G_DAY), .val (.ref t), .val (.ref r_G_DAY)] [(.ref r_G_DAY)]))
  obtain ⟨T2, X2, e2, st2⟩ := getF X0 hx hZ hown (host := "") (Or.inl (hw _ (own_m 50 rfl))) Via.refl e0 F_G_DAY_promotion (g := (mkF m 14 #[.val (.ref r_G_DAY), .val (.ref t), .val (.ref r_G_DAY)] [(.ref r_G_DAY)])) rfl rfl (hb hby own_d_prog_17_method_10_code_14)
  refine own_go st2 ?_
  show own_Go p e below _ (T2.setTop (mkF m 17 #[.val (.ref r_G_DAY), .val (.ref t), .val (.ref r_G_DAY)] [.null]))
  refine own_go (fun _ hr => XS.astoreN X2.here hx rfl (hb hby own_d_prog_17_method_10_code_17) rfl rfl (l' := #[.val (.ref r_G_DAY), .val (.ref t), .val .null]) rfl (XS.goto X2.here hx rfl (pc0 := 18) (pc' := 2) rfl (hb hby own_d_prog_17_method_10_code_18) (by decide) (by decide) (XS.aloadN X2.here hx rfl (hb hby own_d_prog_17_method_10_code_2) rfl rfl hr))) ?_
  show own_Go p e below _ (T2.setTop (mkF m 3 #[.val (.ref r_G_DAY), .val (.ref t), .val .null] [.null]))
  refine own_go (fun _ hr => XS.ifnullYes X2.here hx rfl (pc0 := 3) (pc' := 21) rfl (hb hby own_d_prog_17_method_10_code_3) rfl (by decide) (by decide) hr) ?_
  show own_Go p e below _ (T2.setTop (mkF m 21 #[.val (.ref r_G_DAY), .val (.ref t), .val .null] []))
  refine own_go (fun _ hr => XS.iconst X2.here hx rfl (hb hby own_d_prog_17_method_10_code_21) hr) ?_
  show own_Go p e below _ (T2.setTop (mkF m 22 #[.val (.ref r_G_DAY), .val (.ref t), .val .null] [(.int (0 : Int32))]))
  have hq17 : ¬ (jt = (17 : Int32)) := fun q => c1 (H_G_DAY.mpr q)
  exact own_retN X2 hx hlk Bd.returns (t := .boolean) (by simp) (hb hby own_d_prog_17_method_10_code_22) (by decide) (by decide) ⟨(show some (Value.int (0 : Int32)) = some (Value.int (own_p17 jt)) by simp [own_p17, hq17]), N0, e2⟩
def own_p18 (j : Int32) : Int32 := if j = 18 then 1 else 0
def Q_pr18 (Z : State) (jt : Int32) (h0 : Heap) (n0 : Nat) (v : Option Value) (h : Heap) (L : List Loc) : Prop := v = some (.int (own_p18 jt)) ∧ Fr n0 L ∧ h = h0
set_option maxRecDepth 65536 in
set_option maxHeartbeats 40000000 in
theorem rm_pr18 (l : Launch) (Z : State) (a0 : Array Value) (hw : ∀ d ∈ tables_1, d.before a0 Z = true) (ws : List Jvm.Cond) (r_G_MONTH : Addr) (t : Addr) (jt : Int32) (h0 : Heap) (n0 : Nat) (Z0 : n0 ≤ h0.size) (F_G_MONTH_promotion : Fld Z h0 r_G_MONTH "com/example/libsortkey/libsortkey/values/AtomicType" "promotion" "Lcom/example/libsortkey/libsortkey/values/AtomicType;" .null) (H_G_MONTH : r_G_MONTH = t ↔ jt = (18 : Int32)) :
    MetFree l (⟨"com/example/libsortkey/libsortkey/values/AtomicType", "promotesTo", "(Lcom/example/libsortkey/libsortkey/values/AtomicType;)Z"⟩ : MethodName) (head1 (Jvm.Cond.code (⟨"com/example/libsortkey/libsortkey/values/AtomicType", "promotesTo", "(Lcom/example/libsortkey/libsortkey/values/AtomicType;)Z"⟩ : MethodName) prog_17_method_10_code 3 (some .boolean) :: ws) ({ frames := 0, cells := 0, slots := 0, locals := 0 } : Room)) (fun aA U => aA = #[(.ref r_G_MONTH), (.ref t)] ∧ Z.Warmed39 U.vm ∧ U.heap = h0) (fun _ _ _ _ _ => True) (fun _ U o U' => ∃ v L, o = .returned v ∧ Q_pr18 Z jt h0 n0 v U'.heap L ∧ FrameEnd U o U' L ({ frames := 0, cells := 0, slots := 0, locals := 0 } : Room).cells ({ frames := 0, cells := 0, slots := 0, locals := 0 } : Room).slots) := by
  refine MetFree.of_bodySF (plainFor_of_name own_pn_com_example_libsortkey_libsortkey_values_AtomicType) hisR ?_
  intro p e s m args below meth c s₁ Bd hml0 hP hK
  obtain ⟨rfl, hZ, hh⟩ := hP
  have hx := Bd.exec
  have hby := Bd.bytes
  have hlk : meth.locks = false := BodyLoose.notSynchronized Bd
  have hml : c.maxLocals = 3 := hml0
  have hown : s.vm.findClass "com/example/libsortkey/libsortkey/values/AtomicType" = some m.cls := findClass_of_methodNamed Bd.named
  have hnm := (name_of_methodNamed Bd.named Bd.method).1
  have X0 : Stand p l e ({ frames := 0, cells := 0, slots := 0, locals := 0 } : Room) s m #[(.ref r_G_MONTH), (.ref t)] below meth c s₁ [] 0 0 := Stand.of_body Bd
  have e0 : s₁.heap = h0 := by rw [← hh, Bd.state]; rfl
  have N0 := Fr.nil n0
  show own_Go p e below (own_K s (Q_pr18 Z jt h0 n0) ({ frames := 0, cells := 0, slots := 0, locals := 0 } : Room).cells ({ frames := 0, cells := 0, slots := 0, locals := 0 } : Room).slots) (s₁.setTop (entryFrame m #[(.ref r_G_MONTH), (.ref t)] 3))
  rw [(by first | (simp [entryFrame, mkF, argsToLocals, Value.category]; done) | rfl : entryFrame m #[(.ref r_G_MONTH), (.ref t)] 3 = mkF m 0 #[.val (.ref r_G_MONTH), .val (.ref t), .unset] [])]
  show own_Go p e below _ (s₁.setTop (mkF m 0 #[.val (.ref r_G_MONTH), .val (.ref t), .unset] []))
  refine own_go (fun _ hr => XS.aloadN X0.here hx rfl (hb hby own_d_prog_17_method_10_code_0) rfl rfl (XS.astoreN X0.here hx rfl (hb hby own_d_prog_17_method_10_code_1) rfl rfl (l' := #[.val (.ref r_G_MONTH), .val (.ref t), .val (.ref r_G_MONTH)]) rfl (XS.aloadN X0.here hx rfl (hb hby own_d_prog_17_method_10_code_2) rfl rfl hr))) ?_
  show own_Go p e below _ (s₁.setTop (mkF m 3 #[.val (.ref r_G_MONTH), .val (.ref t), .val (.ref r_G_MONTH)] [(.ref r_G_MONTH)]))
  refine own_go (fun _ hr => XS.ifnullNo X0.here hx rfl (hb hby own_d_prog_17_method_10_code_3) rfl hr) ?_
  show own_Go p e below _ (s₁.setTop (mkF m 6 #[.val (.ref r_G_MONTH), .val (.ref t), .val (.ref r_G_MONTH)] []))
  refine own_go (fun _ hr => XS.aloadN X0.here hx rfl (hb hby own_d_prog_17_method_10_code_6) rfl rfl (XS.aloadN X0.here hx rfl (hb hby own_d_prog_17_method_10_code_7) rfl rfl hr)) ?_
  show own_Go p e below _ (s₁.setTop (mkF m 8 #[.val (.ref r_G_MONTH), .val (.ref t), .val (.ref r_G_MONTH)] [(.ref t), (.ref r_G_MONTH)]))
  by_cases c1 : r_G_MONTH = t
  · refine own_go (fun _ hr => Jvm.RoadKit.acmp X0 hx rfl rfl rfl (pc0 := 8) (pc' := 11) (same := true) rfl (hb hby own_d_prog_17_method_10_code_8) rfl (decide_eq_true (congrArg Value.ref c1)) (by decide) (by decide) hr) ?_
    show own_Go p e below _ (s₁.setTop (mkF m 11 #[.val (.ref r_G_MONTH), .val (.ref t), .val (.ref r_G_MONTH)] []))
    refine own_go (fun _ hr => XS.iconst X0.here hx rfl (hb hby own_d_prog_17_method_10_code_11) hr) ?_
    show own_Go p e below _ (s₁.setTop (mkF m 12 #[.val (.ref r_G_MONTH), .val (.ref t), .val (.ref r_G_MONTH)] [(.int (1 : Int32))]))
    have hq18 : jt = (18 : Int32) := H_G_MONTH.mp c1
    exact own_retN X0 hx hlk Bd.returns (t := .boolean) (by simp) (hb hby own_d_prog_17_method_10_code_12) (by decide) (by decide) ⟨(show some (Value.int (1 : Int32)) = some (Value.int (own_p18 jt)) by simp [own_p18, hq18]), N0, e0⟩
  refine own_go (fun _ hr => Jvm.RoadKit.acmp X0 hx rfl rfl rfl (pc0 := 8) (pc' := 13) (same := false) rfl (hb hby own_d_prog_17_method_10_code_8) rfl (decide_eq_false fun q => c1 (Value.ref.inj q)) (by decide) (by decide) hr) ?_
  show own_Go p e below _ (s₁.setTop (mkF m 13 #[.val (.ref r_G_MONTH), .val (.ref t), .val (.ref r_G_MONTH)] []))
  refine own_go (fun _ hr => XS.aloadN X0.here hx rfl (hb hby own_d_prog_17_method_10_code_13) rfl rfl hr) ?_
  show own_Go p e below _ (s₁.setTop (mkF m 14 #[.val (.ref r_G_MONTH), .val (.ref t), .val (.ref r_G_MONTH)] [(.ref r_G_MONTH)]))
  obtain ⟨T2, X2, e2, st2⟩ := getF X0 hx hZ hown (host := "") (Or.inl (hw _ (own_m 50 rfl))) Via.refl e0 F_G_MONTH_promotion (g := (mkF m 14 #[.val (.ref r_G_MONTH), .val (.ref t), .val (.ref r_G_MONTH)] [(.ref r_G_MONTH)])) rfl rfl (hb hby own_d_prog_17_method_10_code_14)
  refine own_go st2 ?_
  show own_Go p e below _ (T2.setTop (mkF m 17 #[.val (.ref r_G_MONTH), .val (.ref t), .val (.ref r_G_MONTH)] [.null]))
  refine own_go (fun _ hr => XS.astoreN X2.here hx rfl (hb hby own_d_prog_17_method_10_code_17) rfl rfl (l' := #[.val (.ref r_G_MONTH), .val (.ref t), .val .null]) rfl (XS.goto X2.here hx rfl (pc0 := 18) (pc' := 2) rfl (hb hby own_d_prog_17_method_10_code_18) (by decide) (by decide) (XS.aloadN X2.here hx rfl (hb hby own_d_prog_17_method_10_code_2) rfl rfl hr))) ?_
  show own_Go p e below _ (T2.setTop (mkF m 3 #[.val (.ref r_G_MONTH), .val (.ref t), .val .null] [.null]))
  refine own_go (fun _ hr => XS.ifnullYes X2.here hx rfl (pc0 := 3) (pc' := 21) rfl (hb hby own_d_prog_17_method_10_code_3) rfl (by decide) (by decide) hr) ?_
  show own_Go p e below _ (T2.setTop (mkF m 21 #[.val (.ref r_G_MONTH), .val (.ref t), .val .null] []))
  refine own_go (fun _ hr => XS.iconst X2.here hx rfl (hb hby own_d_prog_17_method_10_code_21) hr) ?_
  show own_Go p e below _ (T2.setTop (mkF m 22 #[.val (.ref r_G_MONTH), .val (.ref t), .val .null] [(.int (0 : Int32))]))
  have hq18 : ¬ (jt = (18 : Int32)) := fun q => c1 (H_G_MONTH.mpr q)
  exact own_retN X2 hx hlk Bd.returns (t := .boolean) (by simp) (hb hby own_d_prog_17_method_10_code_22) (by decide) (by decide) ⟨(show some (Value.int (0 : Int32)) = some (Value.int (own_p18 jt)) by simp [own_p18, hq18]), N0, e2⟩
def own_p19 (j : Int32) : Int32 := if j = 19 then 1 else 0
def Q_pr19 (Z : State) (jt : Int32) (h0 : Heap) (n0 : Nat) (v : Option Value) (h : Heap) (L : List Loc) : Prop := v = some (.int (own_p19 jt)) ∧ Fr n0 L ∧ h = h0
set_option maxRecDepth 65536 in
set_option maxHeartbeats 40000000 in
theorem rm_pr19 (l : Launch) (Z : State) (a0 : Array Value) (hw : ∀ d ∈ tables_1, d.before a0 Z = true) (ws : List Jvm.Cond) (r_QNAME : Addr) (t : Addr) (jt : Int32) (h0 : Heap) (n0 : Nat) (Z0 : n0 ≤ h0.size) (F_QNAME_promotion : Fld Z h0 r_QNAME "com/example/libsortkey/libsortkey/values/AtomicType" "promotion" "Lcom/example/libsortkey/libsortkey/values/AtomicType;" .null) (H_QNAME : r_QNAME = t ↔ jt = (19 : Int32)) :
    MetFree l (⟨"com/example/libsortkey/libsortkey/values/AtomicType", "promotesTo", "(Lcom/example/libsortkey/libsortkey/values/AtomicType;)Z"⟩ : MethodName) (head1 (Jvm.Cond.code (⟨"com/example/libsortkey/libsortkey/values/AtomicType", "promotesTo", "(Lcom/example/libsortkey/libsortkey/values/AtomicType;)Z"⟩ : MethodName) prog_17_method_10_code 3 (some .boolean) :: ws) ({ frames := 0, cells := 0, slots := 0, locals := 0 } : Room)) (fun aA U => aA = #[(.ref r_QNAME), (.ref t)] ∧ Z.Warmed39 U.vm ∧ U.heap = h0) (fun _ _ _ _ _ => True) (fun _ U o U' => ∃ v L, o = .returned v ∧ Q_pr19 Z jt h0 n0 v U'.heap L ∧ FrameEnd U o U' L ({ frames := 0, cells := 0, slots := 0, locals := 0 } : Room).cells ({ frames := 0, cells := 0, slots := 0, locals := 0 } : Room).slots) := by
  refine MetFree.of_bodySF (plainFor_of_name own_pn_com_example_libsortkey_libsortkey_values_AtomicType) hisR ?_
  intro p e s m args below meth c s₁ Bd hml0 hP hK
  obtain ⟨rfl, hZ, hh⟩ := hP
  have hx := Bd.exec
  have hby := Bd.bytes
  have hlk : meth.locks = false := BodyLoose.notSynchronized Bd
  have hml : c.maxLocals = 3 := hml0
  have hown : s.vm.findClass "com/example/libsortkey/libsortkey/values/AtomicType" = some m.cls := findClass_of_methodNamed Bd.named
  have hnm := (name_of_methodNamed Bd.named Bd.method).1
  have X0 : Stand p l e ({ frames := 0, cells := 0, slots := 0, locals := 0 } : Room) s m #[(.ref r_QNAME), (.ref t)] below meth c s₁ [] 0 0 := Stand.of_body Bd
  have e0 : s₁.heap = h0 := by rw [← hh, Bd.state]; rfl
  have N0 := Fr.nil n0
  show own_Go p e below (own_K s (Q_pr19 Z jt h0 n0) ({ frames := 0, cells := 0, slots := 0, locals := 0 } : Room).cells ({ frames := 0, cells := 0, slots := 0, locals := 0 } : Room).slots) (s₁.setTop (entryFrame m #[(.ref r_QNAME), (.ref t)] 3))
  rw [(by first | (simp [entryFrame, mkF, argsToLocals, Value.category]; done) | rfl : entryFrame m #[(.ref r_QNAME), (.ref t)] 3 = mkF m 0 #[.val (.ref r_QNAME), .val (.ref t), .unset] [])]
  show own_Go p e below _ (s₁.setTop (mkF m 0 #[.val (.ref r_QNAME), .val (.ref t), .unset] []))
  refine own_go (fun _ hr => XS.aloadN X0.here hx rfl (hb hby own_d_prog_17_method_10_code_0) rfl rfl (XS.astoreN X0.here hx rfl (hb hby own_d_prog_17_method_10_code_1) rfl rfl (l' := #[.val (.ref r_QNAME), .val (.ref t), .val (.ref r_QNAME)]) rfl (XS.aloadN X0.here hx rfl (hb hby own_d_prog_17_method_10_code_2) rfl rfl hr))) ?_
  show own_Go p e below _ (s₁.setTop (mkF m 3 #[.val (.ref r_QNAME), .val (.ref t), .val (.ref r_QNAME)] [(.ref r_QNAME)]))
  refine own_go (fun _ hr => XS.ifnullNo X0.here hx rfl (hb hby own_d_prog_17_method_10_code_3) rfl hr) ?_
  show own_Go p e below _ (s₁.setTop (mkF m 6 #[.val (.ref r_QNAME), .val (.ref t), .val (.ref r_QNAME)] []))
  refine own_go (fun _ hr => XS.aloadN X0.here hx rfl (hb hby own_d_prog_17_method_10_code_6) rfl rfl (XS.aloadN X0.here hx rfl (hb hby own_d_prog_17_method_10_code_7) rfl rfl hr)) ?_
  show own_Go p e below _ (s₁.setTop (mkF m 8 #[.val (.ref r_QNAME), .val (.ref t), .val (.ref r_QNAME)] [(.ref t), (.ref r_QNAME)]))
  by_cases c1 : r_QNAME = t
  · refine own_go (fun _ hr => Jvm.RoadKit.acmp X0 hx rfl rfl rfl (pc0 := 8) (pc' := 11) (same := true) rfl (hb hby own_d_prog_17_method_10_code_8) rfl (decide_eq_true (congrArg Value.ref c1)) (by decide) (by decide) hr) ?_
    show own_Go p e below _ (s₁.setTop (mkF m 11 #[.val (.ref r_QNAME), .val (.ref t), .val (.ref r_QNAME)] []))
    refine own_go (fun _ hr => XS.iconst X0.here hx rfl (hb hby own_d_prog_17_method_10_code_11) hr) ?_
    show own_Go p e below _ (s₁.setTop (mkF m 12 #[.val (.ref r_QNAME), .val (.ref t), .val (.ref r_QNAME)] [(.int (1 : Int32))]))
    have hq19 : jt = (19 : Int32) := H_QNAME.mp c1
    exact own_retN X0 hx hlk Bd.returns (t := .boolean) (by simp) (hb hby own_d_prog_17_method_10_code_12) (by decide) (by decide) ⟨(show some (Value.int (1 : Int32)) = some (Value.int (own_p19 jt)) by simp [own_p19, hq19]), N0, e0⟩
  refine own_go (fun _ hr => Jvm.RoadKit.acmp X0 hx rfl rfl rfl (pc0 := 8) (pc' := 13) (same := false) rfl (hb hby own_d_prog_17_method_10_code_8) rfl (decide_eq_false fun q => c1 (Value.ref.inj q)) (by decide) (by decide) hr) ?_
  show own_Go p e below _ (s₁.setTop (mkF m 13 #[.val (.ref r_QNAME), .val (.ref t), .val (.ref r_QNAME)] []))
  refine own_go (fun _ hr => XS.aloadN X0.here hx rfl (hb hby own_d_prog_17_method_10_code_13) rfl rfl hr) ?_
  show own_Go p e below _ (s₁.setTop (mkF m 14 #[.val (.ref r_QNAME), .val (.ref t), .val (.ref r_QNAME)] [(.ref r_QNAME)]))
  obtain ⟨T2, X2, e2, st2⟩ := getF X0 hx hZ hown (host := "") (Or.inl (hw _ (own_m 50 rfl))) Via.refl e0 F_QNAME_promotion (g := (mkF m 14 #[.val (.ref r_QNAME), .val (.ref t), .val (.ref r_QNAME)] [(.ref r_QNAME)])) rfl rfl (hb hby own_d_prog_17_method_10_code_14)
  refine own_go st2 ?_
  show own_Go p e below _ (T2.setTop (mkF m 17 #[.val (.ref r_QNAME), .val (.ref t), .val (.ref r_QNAME)] [.null]))
  refine own_go (fun _ hr => XS.astoreN X2.here hx rfl (hb hby own_d_prog_17_method_10_code_17) rfl rfl (l' := #[.val (.ref r_QNAME), .val (.ref t), .val .null]) rfl (XS.goto X2.here hx rfl (pc0 := 18) (pc' := 2) rfl (hb hby own_d_prog_17_method_10_code_18) (by decide) (by decide) (XS.aloadN X2.here hx rfl (hb hby own_d_prog_17_method_10_code_2) rfl rfl hr))) ?_
  show own_Go p e below _ (T2.setTop (mkF m 3 #[.val (.ref r_QNAME), .val (.ref t), .val .null] [.null]))
  refine own_go (fun _ hr => XS.ifnullYes X2.here hx rfl (pc0 := 3) (pc' := 21) rfl (hb hby own_d_prog_17_method_10_code_3) rfl (by decide) (by decide) hr) ?_
  show own_Go p e below _ (T2.setTop (mkF m 21 #[.val (.ref r_QNAME), .val (.ref t), .val .null] []))
  refine own_go (fun _ hr => XS.iconst X2.here hx rfl (hb hby own_d_prog_17_method_10_code_21) hr) ?_
  show own_Go p e below _ (T2.setTop (mkF m 22 #[.val (.ref r_QNAME), .val (.ref t), .val .null] [(.int (0 : Int32))]))
  have hq19 : ¬ (jt = (19 : Int32)) := fun q => c1 (H_QNAME.mpr q)
  exact own_retN X2 hx hlk Bd.returns (t := .boolean) (by simp) (hb hby own_d_prog_17_method_10_code_22) (by decide) (by decide) ⟨(show some (Value.int (0 : Int32)) = some (Value.int (own_p19 jt)) by simp [own_p19, hq19]), N0, e2⟩
theorem own_pd0 : parseMethodDescriptor "(Lcom/example/libsortkey/libsortkey/values/AtomicType;)Z" = some ⟨[(.object "com/example/libsortkey/libsortkey/values/AtomicType")], some .boolean⟩ := by decide +kernel
theorem own_pn_com_example_libsortkey_libsortkey_values_AtomicTypePromotesToPinLaw : plainName "com/example/libsortkey/libsortkey/values/AtomicTypePromotesToPinLaw" = true := by first | (simp [plainName, overriddenIn]; done) | decide +kernel
def Q_law (Z : State) (h0 : Heap) (n0 : Nat) (v : Option Value) (h : Heap) (L : List Loc) : Prop := v = some (.int 1) ∧ Fr n0 L
set_option maxRecDepth 65536 in
set_option maxHeartbeats 40000000 in
theorem rm_law (l : Launch) (Z : State) (a0 : Array Value) (hw : ∀ d ∈ tables_1, d.before a0 Z = true) (ws : List Jvm.Cond) (x0 : Int32) (x1 : Int32) (r_DOUBLE : Addr) (r_FLOAT : Addr) (r_DECIMAL : Addr) (r_INTEGER : Addr) (r_STRING : Addr) (r_ANY_URI : Addr) (r_UNTYPED_ATOMIC : Addr) (r_BOOLEAN : Addr) (r_DATE_TIME : Addr) (r_DATE : Addr) (r_TIME : Addr) (r_YEAR_MONTH_DURATION : Addr) (r_DAY_TIME_DURATION : Addr) (r_DURATION : Addr) (r_G_YEAR_MONTH : Addr) (r_G_YEAR : Addr) (r_G_MONTH_DAY : Addr) (r_G_DAY : Addr) (r_G_MONTH : Addr) (r_QNAME : Addr) (h0 : Heap) (n0 : Nat) (Z0 : n0 ≤ h0.size) (S_DOUBLE : Sta Z h0 "com/example/libsortkey/libsortkey/values/AtomicType" "DOUBLE" "Lcom/example/libsortkey/libsortkey/values/AtomicType;" (.ref r_DOUBLE)) (E_DOUBLE : Exa Z h0 r_DOUBLE "com/example/libsortkey/libsortkey/values/AtomicType") (S_FLOAT : Sta Z h0 "com/example/libsortkey/libsortkey/values/AtomicType" "FLOAT" "Lcom/example/libsortkey/libsortkey/values/AtomicType;" (.ref r_FLOAT)) (E_FLOAT : Exa Z h0 r_FLOAT "com/example/libsortkey/libsortkey/values/AtomicType") (S_DECIMAL : Sta Z h0 "com/example/libsortkey/libsortkey/values/AtomicType" "DECIMAL" "Lcom/example/libsortkey/libsortkey/values/AtomicType;" (.ref r_DECIMAL)) (E_DECIMAL : Exa Z h0 r_DECIMAL "com/example/libsortkey/libsortkey/values/AtomicType") (S_INTEGER : Sta Z h0 "com/example/libsortkey/libsortkey/values/AtomicType" "INTEGER" "Lcom/example/libsortkey/libsortkey/values/AtomicType;" (.ref r_INTEGER)) (E_INTEGER : Exa Z h0 r_INTEGER "com/example/libsortkey/libsortkey/values/AtomicType") (S_STRING : Sta Z h0 "com/example/libsortkey/libsortkey/values/AtomicType" "STRING" "Lcom/example/libsortkey/libsortkey/values/AtomicType;" (.ref r_STRING)) (E_STRING : Exa Z h0 r_STRING "com/example/libsortkey/libsortkey/values/AtomicType") (S_ANY_URI : Sta Z h0 "com/example/libsortkey/libsortkey/values/AtomicType" "ANY_URI" "Lcom/example/libsortkey/libsortkey/values/AtomicType;" (.ref r_ANY_URI)) (E_ANY_URI : Exa Z h0 r_ANY_URI "com/example/libsortkey/libsortkey/values/AtomicType") (S_UNTYPED_ATOMIC : Sta Z h0 "com/example/libsortkey/libsortkey/values/AtomicType" "UNTYPED_ATOMIC" "Lcom/example/libsortkey/libsortkey/values/AtomicType;" (.ref r_UNTYPED_ATOMIC)) (E_UNTYPED_ATOMIC : Exa Z h0 r_UNTYPED_ATOMIC "com/example/libsortkey/libsortkey/values/AtomicType") (S_BOOLEAN : Sta Z h0 "com/example/libsortkey/libsortkey/values/AtomicType" "BOOLEAN" "Lcom/example/libsortkey/libsortkey/values/AtomicType;" (.ref r_BOOLEAN)) (E_BOOLEAN : Exa Z h0 r_BOOLEAN "com/example/libsortkey/libsortkey/values/AtomicType") (S_DATE_TIME : Sta Z h0 "com/example/libsortkey/libsortkey/values/AtomicType" "DATE_TIME" "Lcom/example/libsortkey/libsortkey/values/AtomicType;" (.ref r_DATE_TIME)) (E_DATE_TIME : Exa Z h0 r_DATE_TIME "com/example/libsortkey/libsortkey/values/AtomicType") (S_DATE : Sta Z h0 "com/example/libsortkey/libsortkey/values/AtomicType" "DATE" "Lcom/example/libsortkey/libsortkey/values/AtomicType;" (.ref r_DATE)) (E_DATE : Exa Z h0 r_DATE "com/example/libsortkey/libsortkey/values/AtomicType") (S_TIME : Sta Z h0 "com/example/libsortkey/libsortkey/values/AtomicType" "TIME" "Lcom/example/libsortkey/libsortkey/values/AtomicType;" (.ref r_TIME)) (E_TIME : Exa Z h0 r_TIME "com/example/libsortkey/libsortkey/values/AtomicType") (S_YEAR_MONTH_DURATION : Sta Z h0 "com/example/libsortkey/libsortkey/values/AtomicType" "YEAR_MONTH_DURATION" "Lcom/example/libsortkey/libsortkey/values/AtomicType;" (.ref r_YEAR_MONTH_DURATION)) (E_YEAR_MONTH_DURATION : Exa Z h0 r_YEAR_MONTH_DURATION "com/example/libsortkey/libsortkey/values/AtomicType") (S_DAY_TIME_DURATION : Sta Z h0 "com/example/libsortkey/libsortkey/values/AtomicType" "DAY_TIME_DURATION" "Lcom/example/libsortkey/libsortkey/values/AtomicType;" (.ref r_DAY_TIME_DURATION)) (E_DAY_TIME_DURATION : Exa Z h0 r_DAY_TIME_DURATION "com/example/libsortkey/libsortkey/values/AtomicType") (S_DURATION : Sta Z h0 "com/example/libsortkey/libsortkey/values/AtomicType" "DURATION" "Lcom/example/libsortkey/libsortkey/values/AtomicType;" (.ref r_DURATION)) (E_DURATION : Exa Z h0 r_DURATION "com/example/libsortkey/libsortkey/values/AtomicType") (S_G_YEAR_MONTH : Sta Z h0 "com/example/libsortkey/libsortkey/values/AtomicType" "G_YEAR_MONTH" "Lcom/example/libsortkey/libsortkey/values/AtomicType;" (.ref r_G_YEAR_MONTH)) (E_G_YEAR_MONTH : Exa Z h0 r_G_YEAR_MONTH "com/example/libsortkey/libsortkey/values/AtomicType") (S_G_YEAR : Sta Z h0 "com/example/libsortkey/libsortkey/values/AtomicType" "G_YEAR" "Lcom/example/libsortkey/libsortkey/values/AtomicType;" (.ref r_G_YEAR)) (E_G_YEAR : Exa Z h0 r_G_YEAR "com/example/libsortkey/libsortkey/values/AtomicType") (S_G_MONTH_DAY : Sta Z h0 "com/example/libsortkey/libsortkey/values/AtomicType" "G_MONTH_DAY" "Lcom/example/libsortkey/libsortkey/values/AtomicType;" (.ref r_G_MONTH_DAY)) (E_G_MONTH_DAY : Exa Z h0 r_G_MONTH_DAY "com/example/libsortkey/libsortkey/values/AtomicType") (S_G_DAY : Sta Z h0 "com/example/libsortkey/libsortkey/values/AtomicType" "G_DAY" "Lcom/example/libsortkey/libsortkey/values/AtomicType;" (.ref r_G_DAY)) (E_G_DAY : Exa Z h0 r_G_DAY "com/example/libsortkey/libsortkey/values/AtomicType") (S_G_MONTH : Sta Z h0 "com/example/libsortkey/libsortkey/values/AtomicType" "G_MONTH" "Lcom/example/libsortkey/libsortkey/values/AtomicType;" (.ref r_G_MONTH)) (E_G_MONTH : Exa Z h0 r_G_MONTH "com/example/libsortkey/libsortkey/values/AtomicType") (S_QNAME : Sta Z h0 "com/example/libsortkey/libsortkey/values/AtomicType" "QNAME" "Lcom/example/libsortkey/libsortkey/values/AtomicType;" (.ref r_QNAME)) (E_QNAME : Exa Z h0 r_QNAME "com/example/libsortkey/libsortkey/values/AtomicType") (F_DOUBLE_ordinal : Fld Z h0 r_DOUBLE "java/lang/Enum" "ordinal" "I" (.int (0 : Int32))) (F_INTEGER_ordinal : Fld Z h0 r_INTEGER "java/lang/Enum" "ordinal" "I" (.int (3 : Int32))) (F_DOUBLE_promotion : Fld Z h0 r_DOUBLE "com/example/libsortkey/libsortkey/values/AtomicType" "promotion" "Lcom/example/libsortkey/libsortkey/values/AtomicType;" .null) (F_G_YEAR_MONTH_ordinal : Fld Z h0 r_G_YEAR_MONTH "java/lang/Enum" "ordinal" "I" (.int (14 : Int32))) (F_FLOAT_ordinal : Fld Z h0 r_FLOAT "java/lang/Enum" "ordinal" "I" (.int (1 : Int32))) (F_G_YEAR_MONTH_promotion : Fld Z h0 r_G_YEAR_MONTH "com/example/libsortkey/libsortkey/values/AtomicType" "promotion" "Lcom/example/libsortkey/libsortkey/values/AtomicType;" .null) (F_DATE_TIME_ordinal : Fld Z h0 r_DATE_TIME "java/lang/Enum" "ordinal" "I" (.int (8 : Int32))) (F_YEAR_MONTH_DURATION_ordinal : Fld Z h0 r_YEAR_MONTH_DURATION "java/lang/Enum" "ordinal" "I" (.int (11 : Int32))) (F_DATE_TIME_promotion : Fld Z h0 r_DATE_TIME "com/example/libsortkey/libsortkey/values/AtomicType" "promotion" "Lcom/example/libsortkey/libsortkey/values/AtomicType;" .null) (F_G_MONTH_DAY_ordinal : Fld Z h0 r_G_MONTH_DAY "java/lang/Enum" "ordinal" "I" (.int (16 : Int32))) (F_G_MONTH_DAY_promotion : Fld Z h0 r_G_MONTH_DAY "com/example/libsortkey/libsortkey/values/AtomicType" "promotion" "Lcom/example/libsortkey/libsortkey/values/AtomicType;" .null) (F_DATE_ordinal : Fld Z h0 r_DATE "java/lang/Enum" "ordinal" "I" (.int (9 : Int32))) (F_DURATION_ordinal : Fld Z h0 r_DURATION "java/lang/Enum" "ordinal" "I" (.int (13 : Int32))) (F_DATE_promotion : Fld Z h0 r_DATE "com/example/libsortkey/libsortkey/values/AtomicType" "promotion" "Lcom/example/libsortkey/libsortkey/values/AtomicType;" .null) (F_UNTYPED_ATOMIC_ordinal : Fld Z h0 r_UNTYPED_ATOMIC "java/lang/Enum" "ordinal" "I" (.int (6 : Int32))) (F_UNTYPED_ATOMIC_promotion : Fld Z h0 r_UNTYPED_ATOMIC "com/example/libsortkey/libsortkey/values/AtomicType" "promotion" "Lcom/example/libsortkey/libsortkey/values/AtomicType;" (.ref r_STRING)) (F_STRING_ordinal : Fld Z h0 r_STRING "java/lang/Enum" "ordinal" "I" (.int (4 : Int32))) (F_STRING_promotion : Fld Z h0 r_STRING "com/example/libsortkey/libsortkey/values/AtomicType" "promotion" "Lcom/example/libsortkey/libsortkey/values/AtomicType;" .null) (F_BOOLEAN_ordinal : Fld Z h0 r_BOOLEAN "java/lang/Enum" "ordinal" "I" (.int (7 : Int32))) (F_DAY_TIME_DURATION_ordinal : Fld Z h0 r_DAY_TIME_DURATION "java/lang/Enum" "ordinal" "I" (.int (12 : Int32))) (F_ANY_URI_ordinal : Fld Z h0 r_ANY_URI "java/lang/Enum" "ordinal" "I" (.int (5 : Int32))) (F_DAY_TIME_DURATION_promotion : Fld Z h0 r_DAY_TIME_DURATION "com/example/libsortkey/libsortkey/values/AtomicType" "promotion" "Lcom/example/libsortkey/libsortkey/values/AtomicType;" .null) (F_QNAME_ordinal : Fld Z h0 r_QNAME "java/lang/Enum" "ordinal" "I" (.int (19 : Int32))) (F_TIME_ordinal : Fld Z h0 r_TIME "java/lang/Enum" "ordinal" "I" (.int (10 : Int32))) (F_QNAME_promotion : Fld Z h0 r_QNAME "com/example/libsortkey/libsortkey/values/AtomicType" "promotion" "Lcom/example/libsortkey/libsortkey/values/AtomicType;" .null) (F_INTEGER_promotion : Fld Z h0 r_INTEGER "com/example/libsortkey/libsortkey/values/AtomicType" "promotion" "Lcom/example/libsortkey/libsortkey/values/AtomicType;" (.ref r_DECIMAL)) (F_DECIMAL_ordinal : Fld Z h0 r_DECIMAL "java/lang/Enum" "ordinal" "I" (.int (2 : Int32))) (F_DECIMAL_promotion : Fld Z h0 r_DECIMAL "com/example/libsortkey/libsortkey/values/AtomicType" "promotion" "Lcom/example/libsortkey/libsortkey/values/AtomicType;" (.ref r_FLOAT)) (F_FLOAT_promotion : Fld Z h0 r_FLOAT "com/example/libsortkey/libsortkey/values/AtomicType" "promotion" "Lcom/example/libsortkey/libsortkey/values/AtomicType;" (.ref r_DOUBLE)) (F_ANY_URI_promotion : Fld Z h0 r_ANY_URI "com/example/libsortkey/libsortkey/values/AtomicType" "promotion" "Lcom/example/libsortkey/libsortkey/values/AtomicType;" (.ref r_STRING)) (F_G_YEAR_ordinal : Fld Z h0 r_G_YEAR "java/lang/Enum" "ordinal" "I" (.int (15 : Int32))) (F_TIME_promotion : Fld Z h0 r_TIME "com/example/libsortkey/libsortkey/values/AtomicType" "promotion" "Lcom/example/libsortkey/libsortkey/values/AtomicType;" .null) (F_YEAR_MONTH_DURATION_promotion : Fld Z h0 r_YEAR_MONTH_DURATION "com/example/libsortkey/libsortkey/values/AtomicType" "promotion" "Lcom/example/libsortkey/libsortkey/values/AtomicType;" .null) (F_BOOLEAN_promotion : Fld Z h0 r_BOOLEAN "com/example/libsortkey/libsortkey/values/AtomicType" "promotion" "Lcom/example/libsortkey/libsortkey/values/AtomicType;" .null) (F_G_DAY_ordinal : Fld Z h0 r_G_DAY "java/lang/Enum" "ordinal" "I" (.int (17 : Int32))) (F_G_DAY_promotion : Fld Z h0 r_G_DAY "com/example/libsortkey/libsortkey/values/AtomicType" "promotion" "Lcom/example/libsortkey/libsortkey/values/AtomicType;" .null) (F_G_MONTH_ordinal : Fld Z h0 r_G_MONTH "java/lang/Enum" "ordinal" "I" (.int (18 : Int32))) (F_G_MONTH_promotion : Fld Z h0 r_G_MONTH "com/example/libsortkey/libsortkey/values/AtomicType" "promotion" "Lcom/example/libsortkey/libsortkey/values/AtomicType;" .null) (F_G_YEAR_promotion : Fld Z h0 r_G_YEAR "com/example/libsortkey/libsortkey/values/AtomicType" "promotion" "Lcom/example/libsortkey/libsortkey/values/AtomicType;" .null) (F_DURATION_promotion : Fld Z h0 r_DURATION "com/example/libsortkey/libsortkey/values/AtomicType" "promotion" "Lcom/example/libsortkey/libsortkey/values/AtomicType;" .null) :
    MetFree l x (head1 (Jvm.Cond.code x code maxLocals ret :: ws) room_1) (fun aA U => aA = #[(.int x0), (.int x1)] ∧ Z.Warmed39 U.vm ∧ U.heap = h0) (fun _ _ _ _ _ => True) (fun _ U o U' => ∃ v L, o = .returned v ∧ Q_law Z h0 n0 v U'.heap L ∧ FrameEnd U o U' L room_1.cells room_1.slots) := by
  refine MetFree.of_bodySF (plainFor_of_name own_pn_com_example_libsortkey_libsortkey_values_AtomicTypePromotesToPinLaw) hisR ?_
  intro p e s m args below meth c s₁ Bd hml0 hP hK
  obtain ⟨rfl, hZ, hh⟩ := hP
  have hx := Bd.exec
  have hby := Bd.bytes
  have hlk : meth.locks = false := BodyLoose.notSynchronized Bd
  have hml : c.maxLocals = 6 := hml0
  have hown : s.vm.findClass "com/example/libsortkey/libsortkey/values/AtomicTypePromotesToPinLaw" = some m.cls := findClass_of_methodNamed Bd.named
  have hnm := (name_of_methodNamed Bd.named Bd.method).1
  have X0 : Stand p l e room_1 s m #[(.int x0), (.int x1)] below meth c s₁ [] 0 0 := Stand.of_body Bd
  have e0 : s₁.heap = h0 := by rw [← hh, Bd.state]; rfl
  have N0 := Fr.nil n0
  have K0 : Keep h0 h0 [] := Keep.refl _ _
  show own_Go p e below (own_K s (Q_law Z h0 n0) room_1.cells room_1.slots) (s₁.setTop (entryFrame m #[(.int x0), (.int x1)] maxLocals))
  rw [(by first | (simp [entryFrame, mkF, argsToLocals, Value.category, maxLocals]; done) | rfl : entryFrame m #[(.int x0), (.int x1)] maxLocals = mkF m 0 #[.val (.int x0), .val (.int x1), .unset, .unset, .unset, .unset] [])]
  show own_Go p e below _ (s₁.setTop (mkF m 0 #[.val (.int x0), .val (.int x1), .unset, .unset, .unset, .unset] []))
  refine own_go (fun _ hr => XS.bipush X0.here hx rfl (hb hby at_0) hr) ?_
  show own_Go p e below _ (s₁.setTop (mkF m 2 #[.val (.int x0), .val (.int x1), .unset, .unset, .unset, .unset] [(.int (20 : Int32))]))
  obtain ⟨T1, h1, k1, X1, e1, E1, A1, EA1, O1, st1⟩ := newRE X0 hx hZ hown (hw _ (own_m 0 rfl)) (hw _ (own_m 1 rfl)) e0 (g := (mkF m 2 #[.val (.int x0), .val (.int x1), .unset, .unset, .unset, .unset] [(.int (20 : Int32))])) rfl (hb hby at_2) rfl (by decide) (cap := 20) (by decide) (by decide) (by decide) (by decide) (ad := "[Lcom/example/libsortkey/libsortkey/values/AtomicType;") (by decide)
  obtain ⟨b1, g1⟩ : ∃ z, z = h0.size := ⟨_, rfl⟩
  rw [← g1] at A1 EA1 st1
  have ge2 : n0 ≤ b1 := Nat.le_trans Z0 (Nat.le_of_eq g1.symm)
  have sz3 : h0.size ≤ b1 := Nat.le_trans K0.1 (Nat.le_of_eq g1.symm)
  refine own_go st1 ?_
  have f4 : Arv Z h1 b1 k1 (.object "com/example/libsortkey/libsortkey/values/AtomicType") (20 : Int32) [.null, .null, .null, .null, .null, .null, .null, .null, .null, .null, .null, .null, .null, .null, .null, .null, .null, .null, .null, .null] .null := (Arv.new A1 (by decide)).pad (pad_rep [] .null 20)
  show own_Go p e below _ (T1.setTop (mkF m 5 #[.val (.int x0), .val (.int x1), .unset, .unset, .unset, .unset] [(.ref b1)]))
  refine own_go (fun _ hr => XS.dup X1.here hx rfl (hb hby at_5) rfl rfl (XS.iconst X1.here hx rfl (hb hby at_6) hr)) ?_
  show own_Go p e below _ (T1.setTop (mkF m 7 #[.val (.int x0), .val (.int x1), .unset, .unset, .unset, .unset] [(.int (0 : Int32)), (.ref b1), (.ref b1)]))
  have f5 := (S_DOUBLE.ext E1)
  obtain ⟨T6, X6, e6, st6⟩ := getS2 X1 hx hZ hown (host := "") (Or.inl (hw _ (own_m 2 rfl))) Via.refl e1 f5 (g := (mkF m 7 #[.val (.int x0), .val (.int x1), .unset, .unset, .unset, .unset] [(.int (0 : Int32)), (.ref b1), (.ref b1)])) rfl (hb hby at_7)
  refine own_go st6 ?_
  show own_Go p e below _ (T6.setTop (mkF m 10 #[.val (.int x0), .val (.int x1), .unset, .unset, .unset, .unset] [(.ref r_DOUBLE), (.int (0 : Int32)), (.ref b1), (.ref b1)]))
  have f8 := (E_DOUBLE.ext E1)
  refine own_stR X6 hx hZ e6 f4 (0 : Int32) (.ref r_DOUBLE) 0 ⟨by decide, by decide⟩ rfl (Nat.le_of_ble_eq_true rfl) (fun _ A q => Sto.ofV A q O1 (Ins.self f8)) rfl [(.ref r_DOUBLE), .null, .null, .null, .null, .null, .null, .null, .null, .null, .null, .null, .null, .null, .null, .null, .null, .null, .null, .null] rfl N0 ge2 (hb hby at_10) ?_
  intro T7 h7 L7 X7 e7 W7 N7 f7
  show own_Go p e below _ (T7.setTop (mkF m 11 #[.val (.int x0), .val (.int x1), .unset, .unset, .unset, .unset] [(.ref b1)]))
  refine own_go (fun _ hr => XS.dup X7.here hx rfl (hb hby at_11) rfl rfl (XS.iconst X7.here hx rfl (hb hby at_12) hr)) ?_
  show own_Go p e below _ (T7.setTop (mkF m 13 #[.val (.int x0), .val (.int x1), .unset, .unset, .unset, .unset] [(.int (1 : Int32)), (.ref b1), (.ref b1)]))
  have f9 := ((S_FLOAT.ext E1).wr W7)
  obtain ⟨T10, X10, e10, st10⟩ := getS2 X7 hx hZ hown (host := "") (Or.inl (hw _ (own_m 6 rfl))) Via.refl e7 f9 (g := (mkF m 13 #[.val (.int x0), .val (.int x1), .unset, .unset, .unset, .unset] [(.int (1 : Int32)), (.ref b1), (.ref b1)])) rfl (hb hby at_13)
  refine own_go st10 ?_
  show own_Go p e below _ (T10.setTop (mkF m 16 #[.val (.int x0), .val (.int x1), .unset, .unset, .unset, .unset] [(.ref r_FLOAT), (.int (1 : Int32)), (.ref b1), (.ref b1)]))
  have f12 := ((E_FLOAT.ext E1).wr W7)
  refine own_stR X10 hx hZ e10 f7 (1 : Int32) (.ref r_FLOAT) 1 ⟨by decide, by decide⟩ rfl (Nat.le_of_ble_eq_true rfl) (fun _ A q => Sto.ofV A q O1 (Ins.self f12)) rfl [(.ref r_DOUBLE), (.ref r_FLOAT), .null, .null, .null, .null, .null, .null, .null, .null, .null, .null, .null, .null, .null, .null, .null, .null, .null, .null] rfl N7 ge2 (hb hby at_16) ?_
  intro T11 h11 L11 X11 e11 W11 N11 f11
  show own_Go p e below _ (T11.setTop (mkF m 17 #[.val (.int x0), .val (.int x1), .unset, .unset, .unset, .unset] [(.ref b1)]))
  refine own_go (fun _ hr => XS.dup X11.here hx rfl (hb hby at_17) rfl rfl (XS.iconst X11.here hx rfl (hb hby at_18) hr)) ?_
  show own_Go p e below _ (T11.setTop (mkF m 19 #[.val (.int x0), .val (.int x1), .unset, .unset, .unset, .unset] [(.int (2 : Int32)), (.ref b1), (.ref b1)]))
  have K13 := (((K0.ext E1).wr W7 (Or.inr sz3)).wr W11 (Or.inr sz3))
  have f14 := (own_sta_keep S_DECIMAL K13 all0)
  obtain ⟨T15, X15, e15, st15⟩ := getS2 X11 hx hZ hown (host := "") (Or.inl (hw _ (own_m 8 rfl))) Via.refl e11 f14 (g := (mkF m 19 #[.val (.int x0), .val (.int x1), .unset, .unset, .unset, .unset] [(.int (2 : Int32)), (.ref b1), (.ref b1)])) rfl (hb hby at_19)
  refine own_go st15 ?_
  show own_Go p e below _ (T15.setTop (mkF m 22 #[.val (.int x0), .val (.int x1), .unset, .unset, .unset, .unset] [(.ref r_DECIMAL), (.int (2 : Int32)), (.ref b1), (.ref b1)]))
  have f17 := (E_DECIMAL.keep K13)
  refine own_stR X15 hx hZ e15 f11 (2 : Int32) (.ref r_DECIMAL) 2 ⟨by decide, by decide⟩ rfl (Nat.le_of_ble_eq_true rfl) (fun _ A q => Sto.ofV A q O1 (Ins.self f17)) rfl [(.ref r_DOUBLE), (.ref r_FLOAT), (.ref r_DECIMAL), .null, .null, .null, .null, .null, .null, .null, .null, .null, .null, .null, .null, .null, .null, .null, .null, .null] rfl N11 ge2 (hb hby at_22) ?_
  intro T16 h16 L16 X16 e16 W16 N16 f16
  show own_Go p e below _ (T16.setTop (mkF m 23 #[.val (.int x0), .val (.int x1), .unset, .unset, .unset, .unset] [(.ref b1)]))
  refine own_go (fun _ hr => XS.dup X16.here hx rfl (hb hby at_23) rfl rfl (XS.iconst X16.here hx rfl (hb hby at_24) hr)) ?_
  show own_Go p e below _ (T16.setTop (mkF m 25 #[.val (.int x0), .val (.int x1), .unset, .unset, .unset, .unset] [(.int (3 : Int32)), (.ref b1), (.ref b1)]))
  have K18 := (K13.wr W16 (Or.inr sz3))
  have f19 := (own_sta_keep S_INTEGER K18 all0)
  obtain ⟨T20, X20, e20, st20⟩ := getS2 X16 hx hZ hown (host := "") (Or.inl (hw _ (own_m 10 rfl))) Via.refl e16 f19 (g := (mkF m 25 #[.val (.int x0), .val (.int x1), .unset, .unset, .unset, .unset] [(.int (3 : Int32)), (.ref b1), (.ref b1)])) rfl (hb hby at_25)
  refine own_go st20 ?_
  show own_Go p e below _ (T20.setTop (mkF m 28 #[.val (.int x0), .val (.int x1), .unset, .unset, .unset, .unset] [(.ref r_INTEGER), (.int (3 : Int32)), (.ref b1), (.ref b1)]))
  have f22 := (E_INTEGER.keep K18)
  refine own_stR X20 hx hZ e20 f16 (3 : Int32) (.ref r_INTEGER) 3 ⟨by decide, by decide⟩ rfl (Nat.le_of_ble_eq_true rfl) (fun _ A q => Sto.ofV A q O1 (Ins.self f22)) rfl [(.ref r_DOUBLE), (.ref r_FLOAT), (.ref r_DECIMAL), (.ref r_INTEGER), .null, .null, .null, .null, .null, .null, .null, .null, .null, .null, .null, .null, .null, .null, .null, .null] rfl N16 ge2 (hb hby at_28) ?_
  intro T21 h21 L21 X21 e21 W21 N21 f21
  show own_Go p e below _ (T21.setTop (mkF m 29 #[.val (.int x0), .val (.int x1), .unset, .unset, .unset, .unset] [(.ref b1)]))
  refine own_go (fun _ hr => XS.dup X21.here hx rfl (hb hby at_29) rfl rfl (XS.iconst X21.here hx rfl (hb hby at_30) hr)) ?_
  show own_Go p e below _ (T21.setTop (mkF m 31 #[.val (.int x0), .val (.int x1), .unset, .unset, .unset, .unset] [(.int (4 : Int32)), (.ref b1), (.ref b1)]))
  have K23 := (K18.wr W21 (Or.inr sz3))
  have f24 := (own_sta_keep S_STRING K23 all0)
  obtain ⟨T25, X25, e25, st25⟩ := getS2 X21 hx hZ hown (host := "") (Or.inl (hw _ (own_m 12 rfl))) Via.refl e21 f24 (g := (mkF m 31 #[.val (.int x0), .val (.int x1), .unset, .unset, .unset, .unset] [(.int (4 : Int32)), (.ref b1), (.ref b1)])) rfl (hb hby at_31)
  refine own_go st25 ?_
  show own_Go p e below _ (T25.setTop (mkF m 34 #[.val (.int x0), .val (.int x1), .unset, .unset, .unset, .unset] [(.ref r_STRING), (.int (4 : Int32)), (.ref b1), (.ref b1)]))
  have f27 := (E_STRING.keep K23)
  refine own_stR X25 hx hZ e25 f21 (4 : Int32) (.ref r_STRING) 4 ⟨by decide, by decide⟩ rfl (Nat.le_of_ble_eq_true rfl) (fun _ A q => Sto.ofV A q O1 (Ins.self f27)) rfl [(.ref r_DOUBLE), (.ref r_FLOAT), (.ref r_DECIMAL), (.ref r_INTEGER), (.ref r_STRING), .null, .null, .null, .null, .null, .null, .null, .null, .null, .null, .null, .null, .null, .null, .null] rfl N21 ge2 (hb hby at_34) ?_
  intro T26 h26 L26 X26 e26 W26 N26 f26
  show own_Go p e below _ (T26.setTop (mkF m 35 #[.val (.int x0), .val (.int x1), .unset, .unset, .unset, .unset] [(.ref b1)]))
  refine own_go (fun _ hr => XS.dup X26.here hx rfl (hb hby at_35) rfl rfl (XS.iconst X26.here hx rfl (hb hby at_36) hr)) ?_
  show own_Go p e below _ (T26.setTop (mkF m 37 #[.val (.int x0), .val (.int x1), .unset, .unset, .unset, .unset] [(.int (5 : Int32)), (.ref b1), (.ref b1)]))
  have K28 := (K23.wr W26 (Or.inr sz3))
  have f29 := (own_sta_keep S_ANY_URI K28 all0)
  obtain ⟨T30, X30, e30, st30⟩ := getS2 X26 hx hZ hown (host := "") (Or.inl (hw _ (own_m 14 rfl))) Via.refl e26 f29 (g := (mkF m 37 #[.val (.int x0), .val (.int x1), .unset, .unset, .unset, .unset] [(.int (5 : Int32)), (.ref b1), (.ref b1)])) rfl (hb hby at_37)
  refine own_go st30 ?_
  show own_Go p e below _ (T30.setTop (mkF m 40 #[.val (.int x0), .val (.int x1), .unset, .unset, .unset, .unset] [(.ref r_ANY_URI), (.int (5 : Int32)), (.ref b1), (.ref b1)]))
  have f32 := (E_ANY_URI.keep K28)
  refine own_stR X30 hx hZ e30 f26 (5 : Int32) (.ref r_ANY_URI) 5 ⟨by decide, by decide⟩ rfl (Nat.le_of_ble_eq_true rfl) (fun _ A q => Sto.ofV A q O1 (Ins.self f32)) rfl [(.ref r_DOUBLE), (.ref r_FLOAT), (.ref r_DECIMAL), (.ref r_INTEGER), (.ref r_STRING), (.ref r_ANY_URI), .null, .null, .null, .null, .null, .null, .null, .null, .null, .null, .null, .null, .null, .null] rfl N26 ge2 (hb hby at_40) ?_
  intro T31 h31 L31 X31 e31 W31 N31 f31
  show own_Go p e below _ (T31.setTop (mkF m 41 #[.val (.int x0), .val (.int x1), .unset, .unset, .unset, .unset] [(.ref b1)]))
  refine own_go (fun _ hr => XS.dup X31.here hx rfl (hb hby at_41) rfl rfl (XS.bipush X31.here hx rfl (hb hby at_42) hr)) ?_
  show own_Go p e below _ (T31.setTop (mkF m 44 #[.val (.int x0), .val (.int x1), .unset, .unset, .unset, .unset] [(.int (6 : Int32)), (.ref b1), (.ref b1)]))
  have K33 := (K28.wr W31 (Or.inr sz3))
  have f34 := (own_sta_keep S_UNTYPED_ATOMIC K33 all0)
  obtain ⟨T35, X35, e35, st35⟩ := getS2 X31 hx hZ hown (host := "") (Or.inl (hw _ (own_m 16 rfl))) Via.refl e31 f34 (g := (mkF m 44 #[.val (.int x0), .val (.int x1), .unset, .unset, .unset, .unset] [(.int (6 : Int32)), (.ref b1), (.ref b1)])) rfl (hb hby at_44)
  refine own_go st35 ?_
  show own_Go p e below _ (T35.setTop (mkF m 47 #[.val (.int x0), .val (.int x1), .unset, .unset, .unset, .unset] [(.ref r_UNTYPED_ATOMIC), (.int (6 : Int32)), (.ref b1), (.ref b1)]))
  have f37 := (E_UNTYPED_ATOMIC.keep K33)
  refine own_stR X35 hx hZ e35 f31 (6 : Int32) (.ref r_UNTYPED_ATOMIC) 6 ⟨by decide, by decide⟩ rfl (Nat.le_of_ble_eq_true rfl) (fun _ A q => Sto.ofV A q O1 (Ins.self f37)) rfl [(.ref r_DOUBLE), (.ref r_FLOAT), (.ref r_DECIMAL), (.ref r_INTEGER), (.ref r_STRING), (.ref r_ANY_URI), (.ref r_UNTYPED_ATOMIC), .null, .null, .null, .null, .null, .null, .null, .null, .null, .null, .null, .null, .null] rfl N31 ge2 (hb hby at_47) ?_
  intro T36 h36 L36 X36 e36 W36 N36 f36
  show own_Go p e below _ (T36.setTop (mkF m 48 #[.val (.int x0), .val (.int x1), .unset, .unset, .unset, .unset] [(.ref b1)]))
  refine own_go (fun _ hr => XS.dup X36.here hx rfl (hb hby at_48) rfl rfl (XS.bipush X36.here hx rfl (hb hby at_49) hr)) ?_
  show own_Go p e below _ (T36.setTop (mkF m 51 #[.val (.int x0), .val (.int x1), .unset, .unset, .unset, .unset] [(.int (7 : Int32)), (.ref b1), (.ref b1)]))
  have K38 := (K33.wr W36 (Or.inr sz3))
  have f39 := (own_sta_keep S_BOOLEAN K38 all0)
  obtain ⟨T40, X40, e40, st40⟩ := getS2 X36 hx hZ hown (host := "") (Or.inl (hw _ (own_m 18 rfl))) Via.refl e36 f39 (g := (mkF m 51 #[.val (.int x0), .val (.int x1), .unset, .unset, .unset, .unset] [(.int (7 : Int32)), (.ref b1), (.ref b1)])) rfl (hb hby at_51)
  refine own_go st40 ?_
  show own_Go p e below _ (T40.setTop (mkF m 54 #[.val (.int x0), .val (.int x1), .unset, .unset, .unset, .unset] [(.ref r_BOOLEAN), (.int (7 : Int32)), (.ref b1), (.ref b1)]))
  have f42 := (E_BOOLEAN.keep K38)
  refine own_stR X40 hx hZ e40 f36 (7 : Int32) (.ref r_BOOLEAN) 7 ⟨by decide, by decide⟩ rfl (Nat.le_of_ble_eq_true rfl) (fun _ A q => Sto.ofV A q O1 (Ins.self f42)) rfl [(.ref r_DOUBLE), (.ref r_FLOAT), (.ref r_DECIMAL), (.ref r_INTEGER), (.ref r_STRING), (.ref r_ANY_URI), (.ref r_UNTYPED_ATOMIC), (.ref r_BOOLEAN), .null, .null, .null, .null, .null, .null, .null, .null, .null, .null, .null, .null] rfl N36 ge2 (hb hby at_54) ?_
  intro T41 h41 L41 X41 e41 W41 N41 f41
  show own_Go p e below _ (T41.setTop (mkF m 55 #[.val (.int x0), .val (.int x1), .unset, .unset, .unset, .unset] [(.ref b1)]))
  refine own_go (fun _ hr => XS.dup X41.here hx rfl (hb hby at_55) rfl rfl (XS.bipush X41.here hx rfl (hb hby at_56) hr)) ?_
  show own_Go p e below _ (T41.setTop (mkF m 58 #[.val (.int x0), .val (.int x1), .unset, .unset, .unset, .unset] [(.int (8 : Int32)), (.ref b1), (.ref b1)]))
  have K43 := (K38.wr W41 (Or.inr sz3))
  have f44 := (own_sta_keep S_DATE_TIME K43 all0)
  obtain ⟨T45, X45, e45, st45⟩ := getS2 X41 hx hZ hown (host := "") (Or.inl (hw _ (own_m 20 rfl))) Via.refl e41 f44 (g := (mkF m 58 #[.val (.int x0), .val (.int x1), .unset, .unset, .unset, .unset] [(.int (8 : Int32)), (.ref b1), (.ref b1)])) rfl (hb hby at_58)
  refine own_go st45 ?_
  show own_Go p e below _ (T45.setTop (mkF m 61 #[.val (.int x0), .val (.int x1), .unset, .unset, .unset, .unset] [(.ref r_DATE_TIME), (.int (8 : Int32)), (.ref b1), (.ref b1)]))
  have f47 := (E_DATE_TIME.keep K43)
  refine own_stR X45 hx hZ e45 f41 (8 : Int32) (.ref r_DATE_TIME) 8 ⟨by decide, by decide⟩ rfl (Nat.le_of_ble_eq_true rfl) (fun _ A q => Sto.ofV A q O1 (Ins.self f47)) rfl [(.ref r_DOUBLE), (.ref r_FLOAT), (.ref r_DECIMAL), (.ref r_INTEGER), (.ref r_STRING), (.ref r_ANY_URI), (.ref r_UNTYPED_ATOMIC), (.ref r_BOOLEAN), (.ref r_DATE_TIME), .null, .null, .null, .null, .null, .null, .null, .null, .null, .null, .null] rfl N41 ge2 (hb hby at_61) ?_
  intro T46 h46 L46 X46 e46 W46 N46 f46
  show own_Go p e below _ (T46.setTop (mkF m 62 #[.val (.int x0), .val (.int x1), .unset, .unset, .unset, .unset] [(.ref b1)]))
  refine own_go (fun _ hr => XS.dup X46.here hx rfl (hb hby at_62) rfl rfl (XS.bipush X46.here hx rfl (hb hby at_63) hr)) ?_
  show own_Go p e below _ (T46.setTop (mkF m 65 #[.val (.int x0), .val (.int x1), .unset, .unset, .unset, .unset] [(.int (9 : Int32)), (.ref b1), (.ref b1)]))
  have K48 := (K43.wr W46 (Or.inr sz3))
  have f49 := (own_sta_keep S_DATE K48 all0)
  obtain ⟨T50, X50, e50, st50⟩ := getS2 X46 hx hZ hown (host := "") (Or.inl (hw _ (own_m 22 rfl))) Via.refl e46 f49 (g := (mkF m 65 #[.val (.int x0), .val (.int x1), .unset, .unset, .unset, .unset] [(.int (9 : Int32)), (.ref b1), (.ref b1)])) rfl (hb hby at_65)
  refine own_go st50 ?_
  show own_Go p e below _ (T50.setTop (mkF m 68 #[.val (.int x0), .val (.int x1), .unset, .unset, .unset, .unset] [(.ref r_DATE), (.int (9 : Int32)), (.ref b1), (.ref b1)]))
  have f52 := (E_DATE.keep K48)
  refine own_stR X50 hx hZ e50 f46 (9 : Int32) (.ref r_DATE) 9 ⟨by decide, by decide⟩ rfl (Nat.le_of_ble_eq_true rfl) (fun _ A q => Sto.ofV A q O1 (Ins.self f52)) rfl [(.ref r_DOUBLE), (.ref r_FLOAT), (.ref r_DECIMAL), (.ref r_INTEGER), (.ref r_STRING), (.ref r_ANY_URI), (.ref r_UNTYPED_ATOMIC), (.ref r_BOOLEAN), (.ref r_DATE_TIME), (.ref r_DATE), .null, .null, .null, .null, .null, .null, .null, .null, .null, .null] rfl N46 ge2 (hb hby at_68) ?_
  intro T51 h51 L51 X51 e51 W51 N51 f51
  show own_Go p e below _ (T51.setTop (mkF m 69 #[.val (.int x0), .val (.int x1), .unset, .unset, .unset, .unset] [(.ref b1)]))
  refine own_go (fun _ hr => XS.dup X51.here hx rfl (hb hby at_69) rfl rfl (XS.bipush X51.here hx rfl (hb hby at_70) hr)) ?_
  show own_Go p e below _ (T51.setTop (mkF m 72 #[.val (.int x0), .val (.int x1), .unset, .unset, .unset, .unset] [(.int (10 : Int32)), (.ref b1), (.ref b1)]))
  have K53 := (K48.wr W51 (Or.inr sz3))
  have f54 := (own_sta_keep S_TIME K53 all0)
  obtain ⟨T55, X55, e55, st55⟩ := getS2 X51 hx hZ hown (host := "") (Or.inl (hw _ (own_m 24 rfl))) Via.refl e51 f54 (g := (mkF m 72 #[.val (.int x0), .val (.int x1), .unset, .unset, .unset, .unset] [(.int (10 : Int32)), (.ref b1), (.ref b1)])) rfl (hb hby at_72)
  refine own_go st55 ?_
  show own_Go p e below _ (T55.setTop (mkF m 75 #[.val (.int x0), .val (.int x1), .unset, .unset, .unset, .unset] [(.ref r_TIME), (.int (10 : Int32)), (.ref b1), (.ref b1)]))
  have f57 := (E_TIME.keep K53)
  refine own_stR X55 hx hZ e55 f51 (10 : Int32) (.ref r_TIME) 10 ⟨by decide, by decide⟩ rfl (Nat.le_of_ble_eq_true rfl) (fun _ A q => Sto.ofV A q O1 (Ins.self f57)) rfl [(.ref r_DOUBLE), (.ref r_FLOAT), (.ref r_DECIMAL), (.ref r_INTEGER), (.ref r_STRING), (.ref r_ANY_URI), (.ref r_UNTYPED_ATOMIC), (.ref r_BOOLEAN), (.ref r_DATE_TIME), (.ref r_DATE), (.ref r_TIME), .null, .null, .null, .null, .null, .null, .null, .null, .null] rfl N51 ge2 (hb hby at_75) ?_
  intro T56 h56 L56 X56 e56 W56 N56 f56
  show own_Go p e below _ (T56.setTop (mkF m 76 #[.val (.int x0), .val (.int x1), .unset, .unset, .unset, .unset] [(.ref b1)]))
  refine own_go (fun _ hr => XS.dup X56.here hx rfl (hb hby at_76) rfl rfl (XS.bipush X56.here hx rfl (hb hby at_77) hr)) ?_
  show own_Go p e below _ (T56.setTop (mkF m 79 #[.val (.int x0), .val (.int x1), .unset, .unset, .unset, .unset] [(.int (11 : Int32)), (.ref b1), (.ref b1)]))
  have K58 := (K53.wr W56 (Or.inr sz3))
  have f59 := (own_sta_keep S_YEAR_MONTH_DURATION K58 all0)
  obtain ⟨T60, X60, e60, st60⟩ := getS2 X56 hx hZ hown (host := "") (Or.inl (hw _ (own_m 26 rfl))) Via.refl e56 f59 (g := (mkF m 79 #[.val (.int x0), .val (.int x1), .unset, .unset, .unset, .unset] [(.int (11 : Int32)), (.ref b1), (.ref b1)])) rfl (hb hby at_79)
  refine own_go st60 ?_
  show own_Go p e below _ (T60.setTop (mkF m 82 #[.val (.int x0), .val (.int x1), .unset, .unset, .unset, .unset] [(.ref r_YEAR_MONTH_DURATION), (.int (11 : Int32)), (.ref b1), (.ref b1)]))
  have f62 := (E_YEAR_MONTH_DURATION.keep K58)
  refine own_stR X60 hx hZ e60 f56 (11 : Int32) (.ref r_YEAR_MONTH_DURATION) 11 ⟨by decide, by decide⟩ rfl (Nat.le_of_ble_eq_true rfl) (fun _ A q => Sto.ofV A q O1 (Ins.self f62)) rfl [(.ref r_DOUBLE), (.ref r_FLOAT), (.ref r_DECIMAL), (.ref r_INTEGER), (.ref r_STRING), (.ref r_ANY_URI), (.ref r_UNTYPED_ATOMIC), (.ref r_BOOLEAN), (.ref r_DATE_TIME), (.ref r_DATE), (.ref r_TIME), (.ref r_YEAR_MONTH_DURATION), .null, .null, .null, .null, .null, .null, .null, .null] rfl N56 ge2 (hb hby at_82) ?_
  intro T61 h61 L61 X61 e61 W61 N61 f61
  show own_Go p e below _ (T61.setTop (mkF m 83 #[.val (.int x0), .val (.int x1), .unset, .unset, .unset, .unset] [(.ref b1)]))
  refine own_go (fun _ hr => XS.dup X61.here hx rfl (hb hby at_83) rfl rfl (XS.bipush X61.here hx rfl (hb hby at_84) hr)) ?_
  show own_Go p e below _ (T61.setTop (mkF m 86 #[.val (.int x0), .val (.int x1), .unset, .unset, .unset, .unset] [(.int (12 : Int32)), (.ref b1), (.ref b1)]))
  have K63 := (K58.wr W61 (Or.inr sz3))
  have f64 := (own_sta_keep S_DAY_TIME_DURATION K63 all0)
  obtain ⟨T65, X65, e65, st65⟩ := getS2 X61 hx hZ hown (host := "") (Or.inl (hw _ (own_m 28 rfl))) Via.refl e61 f64 (g := (mkF m 86 #[.val (.int x0), .val (.int x1), .unset, .unset, .unset, .unset] [(.int (12 : Int32)), (.ref b1), (.ref b1)])) rfl (hb hby at_86)
  refine own_go st65 ?_
  show own_Go p e below _ (T65.setTop (mkF m 89 #[.val (.int x0), .val (.int x1), .unset, .unset, .unset, .unset] [(.ref r_DAY_TIME_DURATION), (.int (12 : Int32)), (.ref b1), (.ref b1)]))
  have f67 := (E_DAY_TIME_DURATION.keep K63)
  refine own_stR X65 hx hZ e65 f61 (12 : Int32) (.ref r_DAY_TIME_DURATION) 12 ⟨by decide, by decide⟩ rfl (Nat.le_of_ble_eq_true rfl) (fun _ A q => Sto.ofV A q O1 (Ins.self f67)) rfl [(.ref r_DOUBLE), (.ref r_FLOAT), (.ref r_DECIMAL), (.ref r_INTEGER), (.ref r_STRING), (.ref r_ANY_URI), (.ref r_UNTYPED_ATOMIC), (.ref r_BOOLEAN), (.ref r_DATE_TIME), (.ref r_DATE), (.ref r_TIME), (.ref r_YEAR_MONTH_DURATION), (.ref r_DAY_TIME_DURATION), .null, .null, .null, .null, .null, .null, .null] rfl N61 ge2 (hb hby at_89) ?_
  intro T66 h66 L66 X66 e66 W66 N66 f66
  show own_Go p e below _ (T66.setTop (mkF m 90 #[.val (.int x0), .val (.int x1), .unset, .unset, .unset, .unset] [(.ref b1)]))
  refine own_go (fun _ hr => XS.dup X66.here hx rfl (hb hby at_90) rfl rfl (XS.bipush X66.here hx rfl (hb hby at_91) hr)) ?_
  show own_Go p e below _ (T66.setTop (mkF m 93 #[.val (.int x0), .val (.int x1), .unset, .unset, .unset, .unset] [(.int (13 : Int32)), (.ref b1), (.ref b1)]))
  have K68 := (K63.wr W66 (Or.inr sz3))
  have f69 := (own_sta_keep S_DURATION K68 all0)
  obtain ⟨T70, X70, e70, st70⟩ := getS2 X66 hx hZ hown (host := "") (Or.inl (hw _ (own_m 30 rfl))) Via.refl e66 f69 (g := (mkF m 93 #[.val (.int x0), .val (.int x1), .unset, .unset, .unset, .unset] [(.int (13 : Int32)), (.ref b1), (.ref b1)])) rfl (hb hby at_93)
  refine own_go st70 ?_
  show own_Go p e below _ (T70.setTop (mkF m 96 #[.val (.int x0), .val (.int x1), .unset, .unset, .unset, .unset] [(.ref r_DURATION), (.int (13 : Int32)), (.ref b1), (.ref b1)]))
  have f72 := (E_DURATION.keep K68)
  refine own_stR X70 hx hZ e70 f66 (13 : Int32) (.ref r_DURATION) 13 ⟨by decide, by decide⟩ rfl (Nat.le_of_ble_eq_true rfl) (fun _ A q => Sto.ofV A q O1 (Ins.self f72)) rfl [(.ref r_DOUBLE), (.ref r_FLOAT), (.ref r_DECIMAL), (.ref r_INTEGER), (.ref r_STRING), (.ref r_ANY_URI), (.ref r_UNTYPED_ATOMIC), (.ref r_BOOLEAN), (.ref r_DATE_TIME), (.ref r_DATE), (.ref r_TIME), (.ref r_YEAR_MONTH_DURATION), (.ref r_DAY_TIME_DURATION), (.ref r_DURATION), .null, .null, .null, .null, .null, .null] rfl N66 ge2 (hb hby at_96) ?_
  intro T71 h71 L71 X71 e71 W71 N71 f71
  show own_Go p e below _ (T71.setTop (mkF m 97 #[.val (.int x0), .val (.int x1), .unset, .unset, .unset, .unset] [(.ref b1)]))
  refine own_go (fun _ hr => XS.dup X71.here hx rfl (hb hby at_97) rfl rfl (XS.bipush X71.here hx rfl (hb hby at_98) hr)) ?_
  show own_Go p e below _ (T71.setTop (mkF m 100 #[.val (.int x0), .val (.int x1), .unset, .unset, .unset, .unset] [(.int (14 : Int32)), (.ref b1), (.ref b1)]))
  have K73 := (K68.wr W71 (Or.inr sz3))
  have f74 := (own_sta_keep S_G_YEAR_MONTH K73 all0)
  obtain ⟨T75, X75, e75, st75⟩ := getS2 X71 hx hZ hown (host := "") (Or.inl (hw _ (own_m 32 rfl))) Via.refl e71 f74 (g := (mkF m 100 #[.val (.int x0), .val (.int x1), .unset, .unset, .unset, .unset] [(.int (14 : Int32)), (.ref b1), (.ref b1)])) rfl (hb hby at_100)
  refine own_go st75 ?_
  show own_Go p e below _ (T75.setTop (mkF m 103 #[.val (.int x0), .val (.int x1), .unset, .unset, .unset, .unset] [(.ref r_G_YEAR_MONTH), (.int (14 : Int32)), (.ref b1), (.ref b1)]))
  have f77 := (E_G_YEAR_MONTH.keep K73)
  refine own_stR X75 hx hZ e75 f71 (14 : Int32) (.ref r_G_YEAR_MONTH) 14 ⟨by decide, by decide⟩ rfl (Nat.le_of_ble_eq_true rfl) (fun _ A q => Sto.ofV A q O1 (Ins.self f77)) rfl [(.ref r_DOUBLE), (.ref r_FLOAT), (.ref r_DECIMAL), (.ref r_INTEGER), (.ref r_STRING), (.ref r_ANY_URI), (.ref r_UNTYPED_ATOMIC), (.ref r_BOOLEAN), (.ref r_DATE_TIME), (.ref r_DATE), (.ref r_TIME), (.ref r_YEAR_MONTH_DURATION), (.ref r_DAY_TIME_DURATION), (.ref r_DURATION), (.ref r_G_YEAR_MONTH), .null, .null, .null, .null, .null] rfl N71 ge2 (hb hby at_103) ?_
  intro T76 h76 L76 X76 e76 W76 N76 f76
  show own_Go p e below _ (T76.setTop (mkF m 104 #[.val (.int x0), .val (.int x1), .unset, .unset, .unset, .unset] [(.ref b1)]))
  refine own_go (fun _ hr => XS.dup X76.here hx rfl (hb hby at_104) rfl rfl (XS.bipush X76.here hx rfl (hb hby at_105) hr)) ?_
  show own_Go p e below _ (T76.setTop (mkF m 107 #[.val (.int x0), .val (.int x1), .unset, .unset, .unset, .unset] [(.int (15 : Int32)), (.ref b1), (.ref b1)]))
  have K78 := (K73.wr W76 (Or.inr sz3))
  have f79 := (own_sta_keep S_G_YEAR K78 all0)
  obtain ⟨T80, X80, e80, st80⟩ := getS2 X76 hx hZ hown (host := "") (Or.inl (hw _ (own_m 34 rfl))) Via.refl e76 f79 (g := (mkF m 107 #[.val (.int x0), .val (.int x1), .unset, .unset, .unset, .unset] [(.int (15 : Int32)), (.ref b1), (.ref b1)])) rfl (hb hby at_107)
  refine own_go st80 ?_
  show own_Go p e below _ (T80.setTop (mkF m 110 #[.val (.int x0), .val (.int x1), .unset, .unset, .unset, .unset] [(.ref r_G_YEAR), (.int (15 : Int32)), (.ref b1), (.ref b1)]))
  have f82 := (E_G_YEAR.keep K78)
  refine own_stR X80 hx hZ e80 f76 (15 : Int32) (.ref r_G_YEAR) 15 ⟨by decide, by decide⟩ rfl (Nat.le_of_ble_eq_true rfl) (fun _ A q => Sto.ofV A q O1 (Ins.self f82)) rfl [(.ref r_DOUBLE), (.ref r_FLOAT), (.ref r_DECIMAL), (.ref r_INTEGER), (.ref r_STRING), (.ref r_ANY_URI), (.ref r_UNTYPED_ATOMIC), (.ref r_BOOLEAN), (.ref r_DATE_TIME), (.ref r_DATE), (.ref r_TIME), (.ref r_YEAR_MONTH_DURATION), (.ref r_DAY_TIME_DURATION), (.ref r_DURATION), (.ref r_G_YEAR_MONTH), (.ref r_G_YEAR), .null, .null, .null, .null] rfl N76 ge2 (hb hby at_110) ?_
  intro T81 h81 L81 X81 e81 W81 N81 f81
  show own_Go p e below _ (T81.setTop (mkF m 111 #[.val (.int x0), .val (.int x1), .unset, .unset, .unset, .unset] [(.ref b1)]))
  refine own_go (fun _ hr => XS.dup X81.here hx rfl (hb hby at_111) rfl rfl (XS.bipush X81.here hx rfl (hb hby at_112) hr)) ?_
  show own_Go p e below _ (T81.setTop (mkF m 114 #[.val (.int x0), .val (.int x1), .unset, .unset, .unset, .unset] [(.int (16 : Int32)), (.ref b1), (.ref b1)]))
  have K83 := (K78.wr W81 (Or.inr sz3))
  have f84 := (own_sta_keep S_G_MONTH_DAY K83 all0)
  obtain ⟨T85, X85, e85, st85⟩ := getS2 X81 hx hZ hown (host := "") (Or.inl (hw _ (own_m 36 rfl))) Via.refl e81 f84 (g := (mkF m 114 #[.val (.int x0), .val (.int x1), .unset, .unset, .unset, .unset] [(.int (16 : Int32)), (.ref b1), (.ref b1)])) rfl (hb hby at_114)
  refine own_go st85 ?_
  show own_Go p e below _ (T85.setTop (mkF m 117 #[.val (.int x0), .val (.int x1), .unset, .unset, .unset, .unset] [(.ref r_G_MONTH_DAY), (.int (16 : Int32)), (.ref b1), (.ref b1)]))
  have f87 := (E_G_MONTH_DAY.keep K83)
  refine own_stR X85 hx hZ e85 f81 (16 : Int32) (.ref r_G_MONTH_DAY) 16 ⟨by decide, by decide⟩ rfl (Nat.le_of_ble_eq_true rfl) (fun _ A q => Sto.ofV A q O1 (Ins.self f87)) rfl [(.ref r_DOUBLE), (.ref r_FLOAT), (.ref r_DECIMAL), (.ref r_INTEGER), (.ref r_STRING), (.ref r_ANY_URI), (.ref r_UNTYPED_ATOMIC), (.ref r_BOOLEAN), (.ref r_DATE_TIME), (.ref r_DATE), (.ref r_TIME), (.ref r_YEAR_MONTH_DURATION), (.ref r_DAY_TIME_DURATION), (.ref r_DURATION), (.ref r_G_YEAR_MONTH), (.ref r_G_YEAR), (.ref r_G_MONTH_DAY), .null, .null, .null] rfl N81 ge2 (hb hby at_117) ?_
  intro T86 h86 L86 X86 e86 W86 N86 f86
  show own_Go p e below _ (T86.setTop (mkF m 118 #[.val (.int x0), .val (.int x1), .unset, .unset, .unset, .unset] [(.ref b1)]))
  refine own_go (fun _ hr => XS.dup X86.here hx rfl (hb hby at_118) rfl rfl (XS.bipush X86.here hx rfl (hb hby at_119) hr)) ?_
  show own_Go p e below _ (T86.setTop (mkF m 121 #[.val (.int x0), .val (.int x1), .unset, .unset, .unset, .unset] [(.int (17 : Int32)), (.ref b1), (.ref b1)]))
  have K88 := (K83.wr W86 (Or.inr sz3))
  have f89 := (own_sta_keep S_G_DAY K88 all0)
  obtain ⟨T90, X90, e90, st90⟩ := getS2 X86 hx hZ hown (host := "") (Or.inl (hw _ (own_m 38 rfl))) Via.refl e86 f89 (g := (mkF m 121 #[.val (.int x0), .val (.int x1), .unset, .unset, .unset, .unset] [(.int (17 : Int32)), (.ref b1), (.ref b1)])) rfl (hb hby at_121)
  refine own_go st90 ?_
  show own_Go p e below _ (T90.setTop (mkF m 124 #[.val (.int x0), .val (.int x1), .unset, .unset, .unset, .unset] [(.ref r_G_DAY), (.int (17 : Int32)), (.ref b1), (.ref b1)]))
  have f92 := (E_G_DAY.keep K88)
  refine own_stR X90 hx hZ e90 f86 (17 : Int32) (.ref r_G_DAY) 17 ⟨by decide, by decide⟩ rfl (Nat.le_of_ble_eq_true rfl) (fun _ A q => Sto.ofV A q O1 (Ins.self f92)) rfl [(.ref r_DOUBLE), (.ref r_FLOAT), (.ref r_DECIMAL), (.ref r_INTEGER), (.ref r_STRING), (.ref r_ANY_URI), (.ref r_UNTYPED_ATOMIC), (.ref r_BOOLEAN), (.ref r_DATE_TIME), (.ref r_DATE), (.ref r_TIME), (.ref r_YEAR_MONTH_DURATION), (.ref r_DAY_TIME_DURATION), (.ref r_DURATION), (.ref r_G_YEAR_MONTH), (.ref r_G_YEAR), (.ref r_G_MONTH_DAY), (.ref r_G_DAY), .null, .null] rfl N86 ge2 (hb hby at_124) ?_
  intro T91 h91 L91 X91 e91 W91 N91 f91
  show own_Go p e below _ (T91.setTop (mkF m 125 #[.val (.int x0), .val (.int x1), .unset, .unset, .unset, .unset] [(.ref b1)]))
  refine own_go (fun _ hr => XS.dup X91.here hx rfl (hb hby at_125) rfl rfl (XS.bipush X91.here hx rfl (hb hby at_126) hr)) ?_
  show own_Go p e below _ (T91.setTop (mkF m 128 #[.val (.int x0), .val (.int x1), .unset, .unset, .unset, .unset] [(.int (18 : Int32)), (.ref b1), (.ref b1)]))
  have K93 := (K88.wr W91 (Or.inr sz3))
  have f94 := (own_sta_keep S_G_MONTH K93 all0)
  obtain ⟨T95, X95, e95, st95⟩ := getS2 X91 hx hZ hown (host := "") (Or.inl (hw _ (own_m 40 rfl))) Via.refl e91 f94 (g := (mkF m 128 #[.val (.int x0), .val (.int x1), .unset, .unset, .unset, .unset] [(.int (18 : Int32)), (.ref b1), (.ref b1)])) rfl (hb hby at_128)
  refine own_go st95 ?_
  show own_Go p e below _ (T95.setTop (mkF m 131 #[.val (.int x0), .val (.int x1), .unset, .unset, .unset, .unset] [(.ref r_G_MONTH), (.int (18 : Int32)), (.ref b1), (.ref b1)]))
  have f97 := (E_G_MONTH.keep K93)
  refine own_stR X95 hx hZ e95 f91 (18 : Int32) (.ref r_G_MONTH) 18 ⟨by decide, by decide⟩ rfl (Nat.le_of_ble_eq_true rfl) (fun _ A q => Sto.ofV A q O1 (Ins.self f97)) rfl [(.ref r_DOUBLE), (.ref r_FLOAT), (.ref r_DECIMAL), (.ref r_INTEGER), (.ref r_STRING), (.ref r_ANY_URI), (.ref r_UNTYPED_ATOMIC), (.ref r_BOOLEAN), (.ref r_DATE_TIME), (.ref r_DATE), (.ref r_TIME), (.ref r_YEAR_MONTH_DURATION), (.ref r_DAY_TIME_DURATION), (.ref r_DURATION), (.ref r_G_YEAR_MONTH), (.ref r_G_YEAR), (.ref r_G_MONTH_DAY), (.ref r_G_DAY), (.ref r_G_MONTH), .null] rfl N91 ge2 (hb hby at_131) ?_
  intro T96 h96 L96 X96 e96 W96 N96 f96
  show own_Go p e below _ (T96.setTop (mkF m 132 #[.val (.int x0), .val (.int x1), .unset, .unset, .unset, .unset] [(.ref b1)]))
  refine own_go (fun _ hr => XS.dup X96.here hx rfl (hb hby at_132) rfl rfl (XS.bipush X96.here hx rfl (hb hby at_133) hr)) ?_
  show own_Go p e below _ (T96.setTop (mkF m 135 #[.val (.int x0), .val (.int x1), .unset, .unset, .unset, .unset] [(.int (19 : Int32)), (.ref b1), (.ref b1)]))
  have K98 := (K93.wr W96 (Or.inr sz3))
  have f99 := (own_sta_keep S_QNAME K98 all0)
  obtain ⟨T100, X100, e100, st100⟩ := getS2 X96 hx hZ hown (host := "") (Or.inl (hw _ (own_m 42 rfl))) Via.refl e96 f99 (g := (mkF m 135 #[.val (.int x0), .val (.int x1), .unset, .unset, .unset, .unset] [(.int (19 : Int32)), (.ref b1), (.ref b1)])) rfl (hb hby at_135)
  refine own_go st100 ?_
  show own_Go p e below _ (T100.setTop (mkF m 138 #[.val (.int x0), .val (.int x1), .unset, .unset, .unset, .unset] [(.ref r_QNAME), (.int (19 : Int32)), (.ref b1), (.ref b1)]))
  have f102 := (E_QNAME.keep K98)
  refine own_stR X100 hx hZ e100 f96 (19 : Int32) (.ref r_QNAME) 19 ⟨by decide, by decide⟩ rfl (Nat.le_of_ble_eq_true rfl) (fun _ A q => Sto.ofV A q O1 (Ins.self f102)) rfl [(.ref r_DOUBLE), (.ref r_FLOAT), (.ref r_DECIMAL), (.ref r_INTEGER), (.ref r_STRING), (.ref r_ANY_URI), (.ref r_UNTYPED_ATOMIC), (.ref r_BOOLEAN), (.ref r_DATE_TIME), (.ref r_DATE), (.ref r_TIME), (.ref r_YEAR_MONTH_DURATION), (.ref r_DAY_TIME_DURATION), (.ref r_DURATION), (.ref r_G_YEAR_MONTH), (.ref r_G_YEAR), (.ref r_G_MONTH_DAY), (.ref r_G_DAY), (.ref r_G_MONTH), (.ref r_QNAME)] rfl N96 ge2 (hb hby at_138) ?_
  intro T101 h101 L101 X101 e101 W101 N101 f101
  show own_Go p e below _ (T101.setTop (mkF m 139 #[.val (.int x0), .val (.int x1), .unset, .unset, .unset, .unset] [(.ref b1)]))
  refine own_go (fun _ hr => XS.astoreN X101.here hx rfl (hb hby at_139) rfl rfl (l' := #[.val (.int x0), .val (.int x1), .val (.ref b1), .unset, .unset, .unset]) rfl (XS.iloadN X101.here hx rfl (hb hby at_140) rfl hr)) ?_
  show own_Go p e below _ (T101.setTop (mkF m 141 #[.val (.int x0), .val (.int x1), .val (.ref b1), .unset, .unset, .unset] [(.int x0)]))
  refine own_go (X101.ldcInt hx hown (mvT hZ (hw _ (own_m 44 rfl))) rfl (hb hby at_141)) ?_
  show own_Go p e below _ (T101.setTop (mkF m 143 #[.val (.int x0), .val (.int x1), .val (.ref b1), .unset, .unset, .unset] [(.int (2147483647 : Int32)), (.int x0)]))
  refine own_go (fun _ hr => XS.iand X101.here hx rfl (hb hby at_143) rfl (XS.bipush X101.here hx rfl (hb hby at_144) hr)) ?_
  show own_Go p e below _ (T101.setTop (mkF m 146 #[.val (.int x0), .val (.int x1), .val (.ref b1), .unset, .unset, .unset] [(.int (20 : Int32)), (.int (x0 &&& (2147483647 : Int32)))]))
  have nz103 : (20 : Int32) ≠ (0 : Int32) := by decide
  refine own_go (fun _ hr => iremM X101 hx rfl (hb hby at_146) rfl nz103 hr) ?_
  show own_Go p e below _ (T101.setTop (mkF m 147 #[.val (.int x0), .val (.int x1), .val (.ref b1), .unset, .unset, .unset] [(.int ((x0 &&& (2147483647 : Int32)) % (20 : Int32)))]))
  refine own_go (fun _ hr => XS.istoreN X101.here hx rfl (hb hby at_147) rfl (l' := #[.val (.int x0), .val (.int x1), .val (.ref b1), .val (.int ((x0 &&& (2147483647 : Int32)) % (20 : Int32))), .unset, .unset]) rfl (XS.iloadN X101.here hx rfl (hb hby at_148) rfl hr)) ?_
  show own_Go p e below _ (T101.setTop (mkF m 149 #[.val (.int x0), .val (.int x1), .val (.ref b1), .val (.int ((x0 &&& (2147483647 : Int32)) % (20 : Int32))), .unset, .unset] [(.int x1)]))
  refine own_go (X101.ldcInt hx hown (mvT hZ (hw _ (own_m 44 rfl))) rfl (hb hby at_149)) ?_
  show own_Go p e below _ (T101.setTop (mkF m 151 #[.val (.int x0), .val (.int x1), .val (.ref b1), .val (.int ((x0 &&& (2147483647 : Int32)) % (20 : Int32))), .unset, .unset] [(.int (2147483647 : Int32)), (.int x1)]))
  refine own_go (fun _ hr => XS.iand X101.here hx rfl (hb hby at_151) rfl (XS.bipush X101.here hx rfl (hb hby at_152) hr)) ?_
  show own_Go p e below _ (T101.setTop (mkF m 154 #[.val (.int x0), .val (.int x1), .val (.ref b1), .val (.int ((x0 &&& (2147483647 : Int32)) % (20 : Int32))), .unset, .unset] [(.int (20 : Int32)), (.int (x1 &&& (2147483647 : Int32)))]))
  have nz104 : (20 : Int32) ≠ (0 : Int32) := by decide
  refine own_go (fun _ hr => iremM X101 hx rfl (hb hby at_154) rfl nz104 hr) ?_
  show own_Go p e below _ (T101.setTop (mkF m 155 #[.val (.int x0), .val (.int x1), .val (.ref b1), .val (.int ((x0 &&& (2147483647 : Int32)) % (20 : Int32))), .unset, .unset] [(.int ((x1 &&& (2147483647 : Int32)) % (20 : Int32)))]))
  refine own_go (fun _ hr => XS.istore X101.here hx rfl (hb hby at_155) rfl (l' := #[.val (.int x0), .val (.int x1), .val (.ref b1), .val (.int ((x0 &&& (2147483647 : Int32)) % (20 : Int32))), .val (.int ((x1 &&& (2147483647 : Int32)) % (20 : Int32))), .unset]) rfl hr) ?_
  show own_Go p e below _ (T101.setTop (mkF m 157 #[.val (.int x0), .val (.int x1), .val (.ref b1), .val (.int ((x0 &&& (2147483647 : Int32)) % (20 : Int32))), .val (.int ((x1 &&& (2147483647 : Int32)) % (20 : Int32))), .unset] []))
  have hj20 := own_mod20 x1
  generalize hjj : ((x1 &&& (2147483647 : Int32)) % (20 : Int32)) = jj
  rw [hjj] at hj20
  rcases own_mod20 x0 with hk105 | hk105 | hk105 | hk105 | hk105 | hk105 | hk105 | hk105 | hk105 | hk105 | hk105 | hk105 | hk105 | hk105 | hk105 | hk105 | hk105 | hk105 | hk105 | hk105
  · rw [hk105]
    show own_Go p e below _ (T101.setTop (mkF m 157 #[.val (.int x0), .val (.int x1), .val (.ref b1), .val (.int (0 : Int32)), .val (.int jj), .unset] []))
    refine own_go (fun _ hr => XS.iloadN X101.here hx rfl (hb hby at_157) rfl (XS.iload X101.here hx rfl (hb hby at_158) rfl hr)) ?_
    show own_Go p e below _ (T101.setTop (mkF m 160 #[.val (.int x0), .val (.int x1), .val (.ref b1), .val (.int (0 : Int32)), .val (.int jj), .unset] [(.int jj), (.int (0 : Int32))]))
    by_cases c106 : (0 : Int32) = jj
    · refine own_go (fun _ hr => XS.icmpYes X101.here hx rfl (pc0 := 160) (pc' := 191) rfl (hb hby at_160) rfl (teq c106).1 (by decide) (by decide) hr) ?_
      show own_Go p e below _ (T101.setTop (mkF m 191 #[.val (.int x0), .val (.int x1), .val (.ref b1), .val (.int (0 : Int32)), .val (.int jj), .unset] []))
      refine own_go (fun _ hr => XS.iconst X101.here hx rfl (hb hby at_191) (XS.goto X101.here hx rfl (pc0 := 192) (pc' := 196) rfl (hb hby at_192) (by decide) (by decide) (XS.istore X101.here hx rfl (hb hby at_196) rfl (l' := #[.val (.int x0), .val (.int x1), .val (.ref b1), .val (.int (0 : Int32)), .val (.int jj), .val (.int (1 : Int32))]) rfl (XS.aloadN X101.here hx rfl (hb hby at_198) rfl rfl (XS.iloadN X101.here hx rfl (hb hby at_199) rfl (own_aaload X101 hx hZ e101 f101 (0 : Int32) (.ref r_DOUBLE) ⟨by decide, by decide⟩ rfl rfl rfl rfl (hb hby at_200) (XS.aloadN X101.here hx rfl (hb hby at_201) rfl rfl hr))))))) ?_
      show own_Go p e below _ (T101.setTop (mkF m 202 #[.val (.int x0), .val (.int x1), .val (.ref b1), .val (.int (0 : Int32)), .val (.int jj), .val (.int (1 : Int32))] [(.ref b1), (.ref r_DOUBLE)]))
      obtain ⟨t, ht, Ft, hjb⟩ : ∃ t, ([(.ref r_DOUBLE), (.ref r_FLOAT), (.ref r_DECIMAL), (.ref r_INTEGER), (.ref r_STRING), (.ref r_ANY_URI), (.ref r_UNTYPED_ATOMIC), (.ref r_BOOLEAN), (.ref r_DATE_TIME), (.ref r_DATE), (.ref r_TIME), (.ref r_YEAR_MONTH_DURATION), (.ref r_DAY_TIME_DURATION), (.ref r_DURATION), (.ref r_G_YEAR_MONTH), (.ref r_G_YEAR), (.ref r_G_MONTH_DAY), (.ref r_G_DAY), (.ref r_G_MONTH), (.ref r_QNAME)] : List Value).getD jj.toNatClampNeg .null = .ref t ∧ Fld Z h0 t "java/lang/Enum" "ordinal" "I" (.int jj) ∧ (¬ jj < 0 ∧ jj < 20) := by
        rcases hj20 with q | q | q | q | q | q | q | q | q | q | q | q | q | q | q | q | q | q | q | q
        · subst q; exact ⟨r_DOUBLE, rfl, F_DOUBLE_ordinal, by decide, by decide⟩
        · subst q; exact ⟨r_FLOAT, rfl, F_FLOAT_ordinal, by decide, by decide⟩
        · subst q; exact ⟨r_DECIMAL, rfl, F_DECIMAL_ordinal, by decide, by decide⟩
        · subst q; exact ⟨r_INTEGER, rfl, F_INTEGER_ordinal, by decide, by decide⟩
        · subst q; exact ⟨r_STRING, rfl, F_STRING_ordinal, by decide, by decide⟩
        · subst q; exact ⟨r_ANY_URI, rfl, F_ANY_URI_ordinal, by decide, by decide⟩
        · subst q; exact ⟨r_UNTYPED_ATOMIC, rfl, F_UNTYPED_ATOMIC_ordinal, by decide, by decide⟩
        · subst q; exact ⟨r_BOOLEAN, rfl, F_BOOLEAN_ordinal, by decide, by decide⟩
        · subst q; exact ⟨r_DATE_TIME, rfl, F_DATE_TIME_ordinal, by decide, by decide⟩
        · subst q; exact ⟨r_DATE, rfl, F_DATE_ordinal, by decide, by decide⟩
        · subst q; exact ⟨r_TIME, rfl, F_TIME_ordinal, by decide, by decide⟩
        · subst q; exact ⟨r_YEAR_MONTH_DURATION, rfl, F_YEAR_MONTH_DURATION_ordinal, by decide, by decide⟩
        · subst q; exact ⟨r_DAY_TIME_DURATION, rfl, F_DAY_TIME_DURATION_ordinal, by decide, by decide⟩
        · subst q; exact ⟨r_DURATION, rfl, F_DURATION_ordinal, by decide, by decide⟩
        · subst q; exact ⟨r_G_YEAR_MONTH, rfl, F_G_YEAR_MONTH_ordinal, by decide, by decide⟩
        · subst q; exact ⟨r_G_YEAR, rfl, F_G_YEAR_ordinal, by decide, by decide⟩
        · subst q; exact ⟨r_G_MONTH_DAY, rfl, F_G_MONTH_DAY_ordinal, by decide, by decide⟩
        · subst q; exact ⟨r_G_DAY, rfl, F_G_DAY_ordinal, by decide, by decide⟩
        · subst q; exact ⟨r_G_MONTH, rfl, F_G_MONTH_ordinal, by decide, by decide⟩
        · subst q; exact ⟨r_QNAME, rfl, F_QNAME_ordinal, by decide, by decide⟩
      have H_DOUBLE : r_DOUBLE = t ↔ jj = (0 : Int32) := ⟨fun q => Value.int.inj (own_fld_eq Ft (q ▸ F_DOUBLE_ordinal)), fun q => by subst q; exact Value.ref.inj ht⟩
      refine own_go (fun _ hr => XS.iload X101.here hx rfl (hb hby at_202) rfl (own_aaload X101 hx hZ e101 f101 jj (.ref t) hjb ht rfl rfl rfl (hb hby at_204) hr)) ?_
      show own_Go p e below _ (T101.setTop (mkF m 205 #[.val (.int x0), .val (.int x1), .val (.ref b1), .val (.int (0 : Int32)), .val (.int jj), .val (.int (1 : Int32))] [(.ref t), (.ref r_DOUBLE)]))
      have K108 := (K98.wr W101 (Or.inr sz3))
      have f109 := (F_DOUBLE_promotion.keep K108 nin0)
      have Z110 := (Nat.le_trans (Nat.le_trans (Nat.le_trans (Nat.le_trans (Nat.le_trans (Nat.le_trans (Nat.le_trans (Nat.le_trans (Nat.le_trans (Nat.le_trans (Nat.le_trans (Nat.le_trans (Nat.le_trans (Nat.le_trans (Nat.le_trans (Nat.le_trans (Nat.le_trans (Nat.le_trans (Nat.le_trans (Nat.le_trans (Nat.le_trans Z0 E1.1) (Nat.le_of_eq W7.size.symm)) (Nat.le_of_eq W11.size.symm)) (Nat.le_of_eq W16.size.symm)) (Nat.le_of_eq W21.size.symm)) (Nat.le_of_eq W26.size.symm)) (Nat.le_of_eq W31.size.symm)) (Nat.le_of_eq W36.size.symm)) (Nat.le_of_eq W41.size.symm)) (Nat.le_of_eq W46.size.symm)) (Nat.le_of_eq W51.size.symm)) (Nat.le_of_eq W56.size.symm)) (Nat.le_of_eq W61.size.symm)) (Nat.le_of_eq W66.size.symm)) (Nat.le_of_eq W71.size.symm)) (Nat.le_of_eq W76.size.symm)) (Nat.le_of_eq W81.size.symm)) (Nat.le_of_eq W86.size.symm)) (Nat.le_of_eq W91.size.symm)) (Nat.le_of_eq W96.size.symm)) (Nat.le_of_eq W101.size.symm))
      have f111 := ((((((((((((((((((((f8.wr W7).wr W11).wr W16).wr W21).wr W26).wr W31).wr W36).wr W41).wr W46).wr W51).wr W56).wr W61).wr W66).wr W71).wr W76).wr W81).wr W86).wr W91).wr W96).wr W101)
      refine own_cv X101 hx hZ hown (notFace_of_selects (args := #[]) (mvT hZ (hw _ (own_m 48 rfl)))) (hw _ (own_m 45 rfl)) (hw _ (own_m 46 rfl)) (hw _ (own_m 48 rfl)) (hw _ (own_m 47 rfl)) (hw _ (own_m 3 rfl)) (hw _ (own_m 49 rfl)) (by decide) f111 (rm := { frames := 0, cells := 0, slots := 0, locals := 0 }) (rm_pr0 l Z a0 hw [] r_DOUBLE t jj h101 n0 Z110 f109 H_DOUBLE) (by decide) (W := 0) (by decide) (by decide) (by decide) e101 (by rw [hml]; rfl) (argsL := [(.ref t)]) (lenOf own_pd0 rfl) (rest := []) rfl rfl (Nat.le_of_eq rfl) (hb hby at_205) ?_
      intro _ T107 L107 X107 hQ107
      obtain ⟨rfl, N107q, e107⟩ := hQ107
      have N107 := Fr.app N101 N107q
      show own_Go p e below _ (T107.setTop (mkF m 208 #[.val (.int x0), .val (.int x1), .val (.ref b1), .val (.int (0 : Int32)), .val (.int jj), .val (.int (1 : Int32))] [(.int (own_p0 jj))]))
      refine own_go (fun _ hr => XS.iload X107.here hx rfl (hb hby at_208) rfl hr) ?_
      show own_Go p e below _ (T107.setTop (mkF m 210 #[.val (.int x0), .val (.int x1), .val (.ref b1), .val (.int (0 : Int32)), .val (.int jj), .val (.int (1 : Int32))] [(.int (1 : Int32)), (.int (own_p0 jj))]))
      have c112 : (own_p0 jj) = (1 : Int32) := by
                        have q := hj20
                        have p0 := c106
                        clear hj20 ht Ft hjb
                        simp only [Int32.lt_iff_toInt_lt, ← Int32.toInt_inj, Int32.reduceToInt] at p0
                        rcases q with q | q | q | q | q | q | q | q | q | q | q | q | q | q | q | q | q | q | q | q <;> subst q <;> first | decide | (exfalso; revert p0; decide)
      refine own_go (fun _ hr => XS.icmpNo X107.here hx rfl (hb hby at_210) rfl (teq c112).2 hr) ?_
      show own_Go p e below _ (T107.setTop (mkF m 213 #[.val (.int x0), .val (.int x1), .val (.ref b1), .val (.int (0 : Int32)), .val (.int jj), .val (.int (1 : Int32))] []))
      refine own_go (fun _ hr => XS.iconst X107.here hx rfl (hb hby at_213) (XS.goto X107.here hx rfl (pc0 := 214) (pc' := 218) rfl (hb hby at_214) (by decide) (by decide) hr)) ?_
      show own_Go p e below _ (T107.setTop (mkF m 218 #[.val (.int x0), .val (.int x1), .val (.ref b1), .val (.int (0 : Int32)), .val (.int jj), .val (.int (1 : Int32))] [(.int (1 : Int32))]))
      exact own_retN X107 hx hlk Bd.returns (t := .boolean) (by simp) (hb hby at_218) (by decide) (by decide) ⟨rfl, N107⟩
    refine own_go (fun _ hr => XS.icmpNo X101.here hx rfl (hb hby at_160) rfl (feq c106).1 hr) ?_
    show own_Go p e below _ (T101.setTop (mkF m 163 #[.val (.int x0), .val (.int x1), .val (.ref b1), .val (.int (0 : Int32)), .val (.int jj), .unset] []))
    refine own_go (fun _ hr => XS.iloadN X101.here hx rfl (hb hby at_163) rfl (XS.iconst X101.here hx rfl (hb hby at_164) (XS.icmpNo X101.here hx rfl (hb hby at_165) rfl (flt (by decide)).2.2.1 (XS.iload X101.here hx rfl (hb hby at_168) rfl (XS.iloadN X101.here hx rfl (hb hby at_170) rfl hr))))) ?_
    show own_Go p e below _ (T101.setTop (mkF m 171 #[.val (.int x0), .val (.int x1), .val (.ref b1), .val (.int (0 : Int32)), .val (.int jj), .unset] [(.int (0 : Int32)), (.int jj)]))
    by_cases c113 : (0 : Int32) < jj
    · refine own_go (fun _ hr => XS.icmpNo X101.here hx rfl (hb hby at_171) rfl (tlt c113).2.2.2 hr) ?_
      show own_Go p e below _ (T101.setTop (mkF m 174 #[.val (.int x0), .val (.int x1), .val (.ref b1), .val (.int (0 : Int32)), .val (.int jj), .unset] []))
      refine own_go (fun _ hr => XS.iloadN X101.here hx rfl (hb hby at_174) rfl (XS.iconst X101.here hx rfl (hb hby at_175) (XS.icmpNo X101.here hx rfl (hb hby at_176) rfl (feq (by decide)).1 (XS.iloadN X101.here hx rfl (hb hby at_179) rfl (XS.bipush X101.here hx rfl (hb hby at_180) (XS.icmpYes X101.here hx rfl (pc0 := 182) (pc' := 195) rfl (hb hby at_182) rfl (feq (by decide)).2 (by decide) (by decide) (XS.iconst X101.here hx rfl (hb hby at_195) (XS.istore X101.here hx rfl (hb hby at_196) rfl (l' := #[.val (.int x0), .val (.int x1), .val (.ref b1), .val (.int (0 : Int32)), .val (.int jj), .val (.int (0 : Int32))]) rfl (XS.aloadN X101.here hx rfl (hb hby at_198) rfl rfl (XS.iloadN X101.here hx rfl (hb hby at_199) rfl hr)))))))))) ?_
      show own_Go p e below _ (T101.setTop (mkF m 200 #[.val (.int x0), .val (.int x1), .val (.ref b1), .val (.int (0 : Int32)), .val (.int jj), .val (.int (0 : Int32))] [(.int (0 : Int32)), (.ref b1)]))
      refine own_go (fun _ hr => own_aaload X101 hx hZ e101 f101 (0 : Int32) (.ref r_DOUBLE) ⟨by decide, by decide⟩ rfl rfl rfl rfl (hb hby at_200) (XS.aloadN X101.here hx rfl (hb hby at_201) rfl rfl hr)) ?_
      show own_Go p e below _ (T101.setTop (mkF m 202 #[.val (.int x0), .val (.int x1), .val (.ref b1), .val (.int (0 : Int32)), .val (.int jj), .val (.int (0 : Int32))] [(.ref b1), (.ref r_DOUBLE)]))
      obtain ⟨t, ht, Ft, hjb⟩ : ∃ t, ([(.ref r_DOUBLE), (.ref r_FLOAT), (.ref r_DECIMAL), (.ref r_INTEGER), (.ref r_STRING), (.ref r_ANY_URI), (.ref r_UNTYPED_ATOMIC), (.ref r_BOOLEAN), (.ref r_DATE_TIME), (.ref r_DATE), (.ref r_TIME), (.ref r_YEAR_MONTH_DURATION), (.ref r_DAY_TIME_DURATION), (.ref r_DURATION), (.ref r_G_YEAR_MONTH), (.ref r_G_YEAR), (.ref r_G_MONTH_DAY), (.ref r_G_DAY), (.ref r_G_MONTH), (.ref r_QNAME)] : List Value).getD jj.toNatClampNeg .null = .ref t ∧ Fld Z h0 t "java/lang/Enum" "ordinal" "I" (.int jj) ∧ (¬ jj < 0 ∧ jj < 20) := by
        rcases hj20 with q | q | q | q | q | q | q | q | q | q | q | q | q | q | q | q | q | q | q | q
        · subst q; exact ⟨r_DOUBLE, rfl, F_DOUBLE_ordinal, by decide, by decide⟩
        · subst q; exact ⟨r_FLOAT, rfl, F_FLOAT_ordinal, by decide, by decide⟩
        · subst q; exact ⟨r_DECIMAL, rfl, F_DECIMAL_ordinal, by decide, by decide⟩
        · subst q; exact ⟨r_INTEGER, rfl, F_INTEGER_ordinal, by decide, by decide⟩
        · subst q; exact ⟨r_STRING, rfl, F_STRING_ordinal, by decide, by decide⟩
        · subst q; exact ⟨r_ANY_URI, rfl, F_ANY_URI_ordinal, by decide, by decide⟩
        · subst q; exact ⟨r_UNTYPED_ATOMIC, rfl, F_UNTYPED_ATOMIC_ordinal, by decide, by decide⟩
        · subst q; exact ⟨r_BOOLEAN, rfl, F_BOOLEAN_ordinal, by decide, by decide⟩
        · subst q; exact ⟨r_DATE_TIME, rfl, F_DATE_TIME_ordinal, by decide, by decide⟩
        · subst q; exact ⟨r_DATE, rfl, F_DATE_ordinal, by decide, by decide⟩
        · subst q; exact ⟨r_TIME, rfl, F_TIME_ordinal, by decide, by decide⟩
        · subst q; exact ⟨r_YEAR_MONTH_DURATION, rfl, F_YEAR_MONTH_DURATION_ordinal, by decide, by decide⟩
        · subst q; exact ⟨r_DAY_TIME_DURATION, rfl, F_DAY_TIME_DURATION_ordinal, by decide, by decide⟩
        · subst q; exact ⟨r_DURATION, rfl, F_DURATION_ordinal, by decide, by decide⟩
        · subst q; exact ⟨r_G_YEAR_MONTH, rfl, F_G_YEAR_MONTH_ordinal, by decide, by decide⟩
        · subst q; exact ⟨r_G_YEAR, rfl, F_G_YEAR_ordinal, by decide, by decide⟩
        · subst q; exact ⟨r_G_MONTH_DAY, rfl, F_G_MONTH_DAY_ordinal, by decide, by decide⟩
        · subst q; exact ⟨r_G_DAY, rfl, F_G_DAY_ordinal, by decide, by decide⟩
        · subst q; exact ⟨r_G_MONTH, rfl, F_G_MONTH_ordinal, by decide, by decide⟩
        · subst q; exact ⟨r_QNAME, rfl, F_QNAME_ordinal, by decide, by decide⟩
      have H_DOUBLE : r_DOUBLE = t ↔ jj = (0 : Int32) := ⟨fun q => Value.int.inj (own_fld_eq Ft (q ▸ F_DOUBLE_ordinal)), fun q => by subst q; exact Value.ref.inj ht⟩
      refine own_go (fun _ hr => XS.iload X101.here hx rfl (hb hby at_202) rfl (own_aaload X101 hx hZ e101 f101 jj (.ref t) hjb ht rfl rfl rfl (hb hby at_204) hr)) ?_
      show own_Go p e below _ (T101.setTop (mkF m 205 #[.val (.int x0), .val (.int x1), .val (.ref b1), .val (.int (0 : Int32)), .val (.int jj), .val (.int (0 : Int32))] [(.ref t), (.ref r_DOUBLE)]))
      have K115 := (K98.wr W101 (Or.inr sz3))
      have f116 := (F_DOUBLE_promotion.keep K115 nin0)
      have Z117 := (Nat.le_trans (Nat.le_trans (Nat.le_trans (Nat.le_trans (Nat.le_trans (Nat.le_trans (Nat.le_trans (Nat.le_trans (Nat.le_trans (Nat.le_trans (Nat.le_trans (Nat.le_trans (Nat.le_trans (Nat.le_trans (Nat.le_trans (Nat.le_trans (Nat.le_trans (Nat.le_trans (Nat.le_trans (Nat.le_trans (Nat.le_trans Z0 E1.1) (Nat.le_of_eq W7.size.symm)) (Nat.le_of_eq W11.size.symm)) (Nat.le_of_eq W16.size.symm)) (Nat.le_of_eq W21.size.symm)) (Nat.le_of_eq W26.size.symm)) (Nat.le_of_eq W31.size.symm)) (Nat.le_of_eq W36.size.symm)) (Nat.le_of_eq W41.size.symm)) (Nat.le_of_eq W46.size.symm)) (Nat.le_of_eq W51.size.symm)) (Nat.le_of_eq W56.size.symm)) (Nat.le_of_eq W61.size.symm)) (Nat.le_of_eq W66.size.symm)) (Nat.le_of_eq W71.size.symm)) (Nat.le_of_eq W76.size.symm)) (Nat.le_of_eq W81.size.symm)) (Nat.le_of_eq W86.size.symm)) (Nat.le_of_eq W91.size.symm)) (Nat.le_of_eq W96.size.symm)) (Nat.le_of_eq W101.size.symm))
      have f118 := ((((((((((((((((((((f8.wr W7).wr W11).wr W16).wr W21).wr W26).wr W31).wr W36).wr W41).wr W46).wr W51).wr W56).wr W61).wr W66).wr W71).wr W76).wr W81).wr W86).wr W91).wr W96).wr W101)
      refine own_cv X101 hx hZ hown (notFace_of_selects (args := #[]) (mvT hZ (hw _ (own_m 48 rfl)))) (hw _ (own_m 45 rfl)) (hw _ (own_m 46 rfl)) (hw _ (own_m 48 rfl)) (hw _ (own_m 47 rfl)) (hw _ (own_m 3 rfl)) (hw _ (own_m 49 rfl)) (by decide) f118 (rm := { frames := 0, cells := 0, slots := 0, locals := 0 }) (rm_pr0 l Z a0 hw [] r_DOUBLE t jj h101 n0 Z117 f116 H_DOUBLE) (by decide) (W := 0) (by decide) (by decide) (by decide) e101 (by rw [hml]; rfl) (argsL := [(.ref t)]) (lenOf own_pd0 rfl) (rest := []) rfl rfl (Nat.le_of_eq rfl) (hb hby at_205) ?_
      intro _ T114 L114 X114 hQ114
      obtain ⟨rfl, N114q, e114⟩ := hQ114
      have N114 := Fr.app N101 N114q
      show own_Go p e below _ (T114.setTop (mkF m 208 #[.val (.int x0), .val (.int x1), .val (.ref b1), .val (.int (0 : Int32)), .val (.int jj), .val (.int (0 : Int32))] [(.int (own_p0 jj))]))
      refine own_go (fun _ hr => XS.iload X114.here hx rfl (hb hby at_208) rfl hr) ?_
      show own_Go p e below _ (T114.setTop (mkF m 210 #[.val (.int x0), .val (.int x1), .val (.ref b1), .val (.int (0 : Int32)), .val (.int jj), .val (.int (0 : Int32))] [(.int (0 : Int32)), (.int (own_p0 jj))]))
      have c119 : (own_p0 jj) = (0 : Int32) := by
                        have q := hj20
                        have p0 := c106
                        have p1 := c113
                        clear hj20 ht Ft hjb
                        simp only [Int32.lt_iff_toInt_lt, ← Int32.toInt_inj, Int32.reduceToInt] at p0 p1
                        rcases q with q | q | q | q | q | q | q | q | q | q | q | q | q | q | q | q | q | q | q | q <;> subst q <;> first | decide | (exfalso; revert p0 p1; decide)
      refine own_go (fun _ hr => XS.icmpNo X114.here hx rfl (hb hby at_210) rfl (teq c119).2 hr) ?_
      show own_Go p e below _ (T114.setTop (mkF m 213 #[.val (.int x0), .val (.int x1), .val (.ref b1), .val (.int (0 : Int32)), .val (.int jj), .val (.int (0 : Int32))] []))
      refine own_go (fun _ hr => XS.iconst X114.here hx rfl (hb hby at_213) (XS.goto X114.here hx rfl (pc0 := 214) (pc' := 218) rfl (hb hby at_214) (by decide) (by decide) hr)) ?_
      show own_Go p e below _ (T114.setTop (mkF m 218 #[.val (.int x0), .val (.int x1), .val (.ref b1), .val (.int (0 : Int32)), .val (.int jj), .val (.int (0 : Int32))] [(.int (1 : Int32))]))
      exact own_retN X114 hx hlk Bd.returns (t := .boolean) (by simp) (hb hby at_218) (by decide) (by decide) ⟨rfl, N114⟩
    refine own_go (fun _ hr => XS.icmpYes X101.here hx rfl (pc0 := 171) (pc' := 191) rfl (hb hby at_171) rfl (flt c113).2.2.2 (by decide) (by decide) hr) ?_
    show own_Go p e below _ (T101.setTop (mkF m 191 #[.val (.int x0), .val (.int x1), .val (.ref b1), .val (.int (0 : Int32)), .val (.int jj), .unset] []))
    refine own_go (fun _ hr => XS.iconst X101.here hx rfl (hb hby at_191) (XS.goto X101.here hx rfl (pc0 := 192) (pc' := 196) rfl (hb hby at_192) (by decide) (by decide) (XS.istore X101.here hx rfl (hb hby at_196) rfl (l' := #[.val (.int x0), .val (.int x1), .val (.ref b1), .val (.int (0 : Int32)), .val (.int jj), .val (.int (1 : Int32))]) rfl (XS.aloadN X101.here hx rfl (hb hby at_198) rfl rfl (XS.iloadN X101.here hx rfl (hb hby at_199) rfl (own_aaload X101 hx hZ e101 f101 (0 : Int32) (.ref r_DOUBLE) ⟨by decide, by decide⟩ rfl rfl rfl rfl (hb hby at_200) (XS.aloadN X101.here hx rfl (hb hby at_201) rfl rfl hr))))))) ?_
    show own_Go p e below _ (T101.setTop (mkF m 202 #[.val (.int x0), .val (.int x1), .val (.ref b1), .val (.int (0 : Int32)), .val (.int jj), .val (.int (1 : Int32))] [(.ref b1), (.ref r_DOUBLE)]))
    obtain ⟨t, ht, Ft, hjb⟩ : ∃ t, ([(.ref r_DOUBLE), (.ref r_FLOAT), (.ref r_DECIMAL), (.ref r_INTEGER), (.ref r_STRING), (.ref r_ANY_URI), (.ref r_UNTYPED_ATOMIC), (.ref r_BOOLEAN), (.ref r_DATE_TIME), (.ref r_DATE), (.ref r_TIME), (.ref r_YEAR_MONTH_DURATION), (.ref r_DAY_TIME_DURATION), (.ref r_DURATION), (.ref r_G_YEAR_MONTH), (.ref r_G_YEAR), (.ref r_G_MONTH_DAY), (.ref r_G_DAY), (.ref r_G_MONTH), (.ref r_QNAME)] : List Value).getD jj.toNatClampNeg .null = .ref t ∧ Fld Z h0 t "java/lang/Enum" "ordinal" "I" (.int jj) ∧ (¬ jj < 0 ∧ jj < 20) := by
      rcases hj20 with q | q | q | q | q | q | q | q | q | q | q | q | q | q | q | q | q | q | q | q
      · subst q; exact ⟨r_DOUBLE, rfl, F_DOUBLE_ordinal, by decide, by decide⟩
      · subst q; exact ⟨r_FLOAT, rfl, F_FLOAT_ordinal, by decide, by decide⟩
      · subst q; exact ⟨r_DECIMAL, rfl, F_DECIMAL_ordinal, by decide, by decide⟩
      · subst q; exact ⟨r_INTEGER, rfl, F_INTEGER_ordinal, by decide, by decide⟩
      · subst q; exact ⟨r_STRING, rfl, F_STRING_ordinal, by decide, by decide⟩
      · subst q; exact ⟨r_ANY_URI, rfl, F_ANY_URI_ordinal, by decide, by decide⟩
      · subst q; exact ⟨r_UNTYPED_ATOMIC, rfl, F_UNTYPED_ATOMIC_ordinal, by decide, by decide⟩
      · subst q; exact ⟨r_BOOLEAN, rfl, F_BOOLEAN_ordinal, by decide, by decide⟩
      · subst q; exact ⟨r_DATE_TIME, rfl, F_DATE_TIME_ordinal, by decide, by decide⟩
      · subst q; exact ⟨r_DATE, rfl, F_DATE_ordinal, by decide, by decide⟩
      · subst q; exact ⟨r_TIME, rfl, F_TIME_ordinal, by decide, by decide⟩
      · subst q; exact ⟨r_YEAR_MONTH_DURATION, rfl, F_YEAR_MONTH_DURATION_ordinal, by decide, by decide⟩
      · subst q; exact ⟨r_DAY_TIME_DURATION, rfl, F_DAY_TIME_DURATION_ordinal, by decide, by decide⟩
      · subst q; exact ⟨r_DURATION, rfl, F_DURATION_ordinal, by decide, by decide⟩
      · subst q; exact ⟨r_G_YEAR_MONTH, rfl, F_G_YEAR_MONTH_ordinal, by decide, by decide⟩
      · subst q; exact ⟨r_G_YEAR, rfl, F_G_YEAR_ordinal, by decide, by decide⟩
      · subst q; exact ⟨r_G_MONTH_DAY, rfl, F_G_MONTH_DAY_ordinal, by decide, by decide⟩
      · subst q; exact ⟨r_G_DAY, rfl, F_G_DAY_ordinal, by decide, by decide⟩
      · subst q; exact ⟨r_G_MONTH, rfl, F_G_MONTH_ordinal, by decide, by decide⟩
      · subst q; exact ⟨r_QNAME, rfl, F_QNAME_ordinal, by decide, by decide⟩
    have H_DOUBLE : r_DOUBLE = t ↔ jj = (0 : Int32) := ⟨fun q => Value.int.inj (own_fld_eq Ft (q ▸ F_DOUBLE_ordinal)), fun q => by subst q; exact Value.ref.inj ht⟩
    refine own_go (fun _ hr => XS.iload X101.here hx rfl (hb hby at_202) rfl (own_aaload X101 hx hZ e101 f101 jj (.ref t) hjb ht rfl rfl rfl (hb hby at_204) hr)) ?_
    show own_Go p e below _ (T101.setTop (mkF m 205 #[.val (.int x0), .val (.int x1), .val (.ref b1), .val (.int (0 : Int32)), .val (.int jj), .val (.int (1 : Int32))] [(.ref t), (.ref r_DOUBLE)]))
    have K121 := (K98.wr W101 (Or.inr sz3))
    have f122 := (F_DOUBLE_promotion.keep K121 nin0)
    have Z123 := (Nat.le_trans (Nat.le_trans (Nat.le_trans (Nat.le_trans (Nat.le_trans (Nat.le_trans (Nat.le_trans (Nat.le_trans (Nat.le_trans (Nat.le_trans (Nat.le_trans (Nat.le_trans (Nat.le_trans (Nat.le_trans (Nat.le_trans (Nat.le_trans (Nat.le_trans (Nat.le_trans (Nat.le_trans (Nat.le_trans (Nat.le_trans Z0 E1.1) (Nat.le_of_eq W7.size.symm)) (Nat.le_of_eq W11.size.symm)) (Nat.le_of_eq W16.size.symm)) (Nat.le_of_eq W21.size.symm)) (Nat.le_of_eq W26.size.symm)) (Nat.le_of_eq W31.size.symm)) (Nat.le_of_eq W36.size.symm)) (Nat.le_of_eq W41.size.symm)) (Nat.le_of_eq W46.size.symm)) (Nat.le_of_eq W51.size.symm)) (Nat.le_of_eq W56.size.symm)) (Nat.le_of_eq W61.size.symm)) (Nat.le_of_eq W66.size.symm)) (Nat.le_of_eq W71.size.symm)) (Nat.le_of_eq W76.size.symm)) (Nat.le_of_eq W81.size.symm)) (Nat.le_of_eq W86.size.symm)) (Nat.le_of_eq W91.size.symm)) (Nat.le_of_eq W96.size.symm)) (Nat.le_of_eq W101.size.symm))
    have f124 := ((((((((((((((((((((f8.wr W7).wr W11).wr W16).wr W21).wr W26).wr W31).wr W36).wr W41).wr W46).wr W51).wr W56).wr W61).wr W66).wr W71).wr W76).wr W81).wr W86).wr W91).wr W96).wr W101)
    refine own_cv X101 hx hZ hown (notFace_of_selects (args := #[]) (mvT hZ (hw _ (own_m 48 rfl)))) (hw _ (own_m 45 rfl)) (hw _ (own_m 46 rfl)) (hw _ (own_m 48 rfl)) (hw _ (own_m 47 rfl)) (hw _ (own_m 3 rfl)) (hw _ (own_m 49 rfl)) (by decide) f124 (rm := { frames := 0, cells := 0, slots := 0, locals := 0 }) (rm_pr0 l Z a0 hw [] r_DOUBLE t jj h101 n0 Z123 f122 H_DOUBLE) (by decide) (W := 0) (by decide) (by decide) (by decide) e101 (by rw [hml]; rfl) (argsL := [(.ref t)]) (lenOf own_pd0 rfl) (rest := []) rfl rfl (Nat.le_of_eq rfl) (hb hby at_205) ?_
    intro _ T120 L120 X120 hQ120
    obtain ⟨rfl, N120q, e120⟩ := hQ120
    have N120 := Fr.app N101 N120q
    show own_Go p e below _ (T120.setTop (mkF m 208 #[.val (.int x0), .val (.int x1), .val (.ref b1), .val (.int (0 : Int32)), .val (.int jj), .val (.int (1 : Int32))] [(.int (own_p0 jj))]))
    refine own_go (fun _ hr => XS.iload X120.here hx rfl (hb hby at_208) rfl hr) ?_
    show own_Go p e below _ (T120.setTop (mkF m 210 #[.val (.int x0), .val (.int x1), .val (.ref b1), .val (.int (0 : Int32)), .val (.int jj), .val (.int (1 : Int32))] [(.int (1 : Int32)), (.int (own_p0 jj))]))
    have c125 : (own_p0 jj) = (1 : Int32) := by
                        have q := hj20
                        have p0 := c106
                        have p1 := c113
                        clear hj20 ht Ft hjb
                        simp only [Int32.lt_iff_toInt_lt, ← Int32.toInt_inj, Int32.reduceToInt] at p0 p1
                        rcases q with q | q | q | q | q | q | q | q | q | q | q | q | q | q | q | q | q | q | q | q <;> subst q <;> first | decide | (exfalso; revert p0 p1; decide)
    refine own_go (fun _ hr => XS.icmpNo X120.here hx rfl (hb hby at_210) rfl (teq c125).2 hr) ?_
    show own_Go p e below _ (T120.setTop (mkF m 213 #[.val (.int x0), .val (.int x1), .val (.ref b1), .val (.int (0 : Int32)), .val (.int jj), .val (.int (1 : Int32))] []))
    refine own_go (fun _ hr => XS.iconst X120.here hx rfl (hb hby at_213) (XS.goto X120.here hx rfl (pc0 := 214) (pc' := 218) rfl (hb hby at_214) (by decide) (by decide) hr)) ?_
    show own_Go p e below _ (T120.setTop (mkF m 218 #[.val (.int x0), .val (.int x1), .val (.ref b1), .val (.int (0 : Int32)), .val (.int jj), .val (.int (1 : Int32))] [(.int (1 : Int32))]))
    exact own_retN X120 hx hlk Bd.returns (t := .boolean) (by simp) (hb hby at_218) (by decide) (by decide) ⟨rfl, N120⟩
  · rw [hk105]
    show own_Go p e below _ (T101.setTop (mkF m 157 #[.val (.int x0), .val (.int x1), .val (.ref b1), .val (.int (1 : Int32)), .val (.int jj), .unset] []))
    refine own_go (fun _ hr => XS.iloadN X101.here hx rfl (hb hby at_157) rfl (XS.iload X101.here hx rfl (hb hby at_158) rfl hr)) ?_
    show own_Go p e below _ (T101.setTop (mkF m 160 #[.val (.int x0), .val (.int x1), .val (.ref b1), .val (.int (1 : Int32)), .val (.int jj), .unset] [(.int jj), (.int (1 : Int32))]))
    by_cases c126 : (1 : Int32) = jj
    · refine own_go (fun _ hr => XS.icmpYes X101.here hx rfl (pc0 := 160) (pc' := 191) rfl (hb hby at_160) rfl (teq c126).1 (by decide) (by decide) hr) ?_
      show own_Go p e below _ (T101.setTop (mkF m 191 #[.val (.int x0), .val (.int x1), .val (.ref b1), .val (.int (1 : Int32)), .val (.int jj), .unset] []))
      refine own_go (fun _ hr => XS.iconst X101.here hx rfl (hb hby at_191) (XS.goto X101.here hx rfl (pc0 := 192) (pc' := 196) rfl (hb hby at_192) (by decide) (by decide) (XS.istore X101.here hx rfl (hb hby at_196) rfl (l' := #[.val (.int x0), .val (.int x1), .val (.ref b1), .val (.int (1 : Int32)), .val (.int jj), .val (.int (1 : Int32))]) rfl (XS.aloadN X101.here hx rfl (hb hby at_198) rfl rfl (XS.iloadN X101.here hx rfl (hb hby at_199) rfl (own_aaload X101 hx hZ e101 f101 (1 : Int32) (.ref r_FLOAT) ⟨by decide, by decide⟩ rfl rfl rfl rfl (hb hby at_200) (XS.aloadN X101.here hx rfl (hb hby at_201) rfl rfl hr))))))) ?_
      show own_Go p e below _ (T101.setTop (mkF m 202 #[.val (.int x0), .val (.int x1), .val (.ref b1), .val (.int (1 : Int32)), .val (.int jj), .val (.int (1 : Int32))] [(.ref b1), (.ref r_FLOAT)]))
      obtain ⟨t, ht, Ft, hjb⟩ : ∃ t, ([(.ref r_DOUBLE), (.ref r_FLOAT), (.ref r_DECIMAL), (.ref r_INTEGER), (.ref r_STRING), (.ref r_ANY_URI), (.ref r_UNTYPED_ATOMIC), (.ref r_BOOLEAN), (.ref r_DATE_TIME), (.ref r_DATE), (.ref r_TIME), (.ref r_YEAR_MONTH_DURATION), (.ref r_DAY_TIME_DURATION), (.ref r_DURATION), (.ref r_G_YEAR_MONTH), (.ref r_G_YEAR), (.ref r_G_MONTH_DAY), (.ref r_G_DAY), (.ref r_G_MONTH), (.ref r_QNAME)] : List Value).getD jj.toNatClampNeg .null = .ref t ∧ Fld Z h0 t "java/lang/Enum" "ordinal" "I" (.int jj) ∧ (¬ jj < 0 ∧ jj < 20) := by
        rcases hj20 with q | q | q | q | q | q | q | q | q | q | q | q | q | q | q | q | q | q | q | q
        · subst q; exact ⟨r_DOUBLE, rfl, F_DOUBLE_ordinal, by decide, by decide⟩
        · subst q; exact ⟨r_FLOAT, rfl, F_FLOAT_ordinal, by decide, by decide⟩
        · subst q; exact ⟨r_DECIMAL, rfl, F_DECIMAL_ordinal, by decide, by decide⟩
        · subst q; exact ⟨r_INTEGER, rfl, F_INTEGER_ordinal, by decide, by decide⟩
        · subst q; exact ⟨r_STRING, rfl, F_STRING_ordinal, by decide, by decide⟩
        · subst q; exact ⟨r_ANY_URI, rfl, F_ANY_URI_ordinal, by decide, by decide⟩
        · subst q; exact ⟨r_UNTYPED_ATOMIC, rfl, F_UNTYPED_ATOMIC_ordinal, by decide, by decide⟩
        · subst q; exact ⟨r_BOOLEAN, rfl, F_BOOLEAN_ordinal, by decide, by decide⟩
        · subst q; exact ⟨r_DATE_TIME, rfl, F_DATE_TIME_ordinal, by decide, by decide⟩
        · subst q; exact ⟨r_DATE, rfl, F_DATE_ordinal, by decide, by decide⟩
        · subst q; exact ⟨r_TIME, rfl, F_TIME_ordinal, by decide, by decide⟩
        · subst q; exact ⟨r_YEAR_MONTH_DURATION, rfl, F_YEAR_MONTH_DURATION_ordinal, by decide, by decide⟩
        · subst q; exact ⟨r_DAY_TIME_DURATION, rfl, F_DAY_TIME_DURATION_ordinal, by decide, by decide⟩
        · subst q; exact ⟨r_DURATION, rfl, F_DURATION_ordinal, by decide, by decide⟩
        · subst q; exact ⟨r_G_YEAR_MONTH, rfl, F_G_YEAR_MONTH_ordinal, by decide, by decide⟩
        · subst q; exact ⟨r_G_YEAR, rfl, F_G_YEAR_ordinal, by decide, by decide⟩
        · subst q; exact ⟨r_G_MONTH_DAY, rfl, F_G_MONTH_DAY_ordinal, by decide, by decide⟩
        · subst q; exact ⟨r_G_DAY, rfl, F_G_DAY_ordinal, by decide, by decide⟩
        · subst q; exact ⟨r_G_MONTH, rfl, F_G_MONTH_ordinal, by decide, by decide⟩
        · subst q; exact ⟨r_QNAME, rfl, F_QNAME_ordinal, by decide, by decide⟩
      have H_FLOAT : r_FLOAT = t ↔ jj = (1 : Int32) := ⟨fun q => Value.int.inj (own_fld_eq Ft (q ▸ F_FLOAT_ordinal)), fun q => by subst q; exact Value.ref.inj ht⟩
      have H_DOUBLE : r_DOUBLE = t ↔ jj = (0 : Int32) := ⟨fun q => Value.int.inj (own_fld_eq Ft (q ▸ F_DOUBLE_ordinal)), fun q => by subst q; exact Value.ref.inj ht⟩
      refine own_go (fun _ hr => XS.iload X101.here hx rfl (hb hby at_202) rfl (own_aaload X101 hx hZ e101 f101 jj (.ref t) hjb ht rfl rfl rfl (hb hby at_204) hr)) ?_
      show own_Go p e below _ (T101.setTop (mkF m 205 #[.val (.int x0), .val (.int x1), .val (.ref b1), .val (.int (1 : Int32)), .val (.int jj), .val (.int (1 : Int32))] [(.ref t), (.ref r_FLOAT)]))
      have K128 := (K98.wr W101 (Or.inr sz3))
      have f129 := (F_FLOAT_promotion.keep K128 nin0)
      have f130 := (F_DOUBLE_promotion.keep K128 nin0)
      have Z131 := (Nat.le_trans (Nat.le_trans (Nat.le_trans (Nat.le_trans (Nat.le_trans (Nat.le_trans (Nat.le_trans (Nat.le_trans (Nat.le_trans (Nat.le_trans (Nat.le_trans (Nat.le_trans (Nat.le_trans (Nat.le_trans (Nat.le_trans (Nat.le_trans (Nat.le_trans (Nat.le_trans (Nat.le_trans (Nat.le_trans (Nat.le_trans Z0 E1.1) (Nat.le_of_eq W7.size.symm)) (Nat.le_of_eq W11.size.symm)) (Nat.le_of_eq W16.size.symm)) (Nat.le_of_eq W21.size.symm)) (Nat.le_of_eq W26.size.symm)) (Nat.le_of_eq W31.size.symm)) (Nat.le_of_eq W36.size.symm)) (Nat.le_of_eq W41.size.symm)) (Nat.le_of_eq W46.size.symm)) (Nat.le_of_eq W51.size.symm)) (Nat.le_of_eq W56.size.symm)) (Nat.le_of_eq W61.size.symm)) (Nat.le_of_eq W66.size.symm)) (Nat.le_of_eq W71.size.symm)) (Nat.le_of_eq W76.size.symm)) (Nat.le_of_eq W81.size.symm)) (Nat.le_of_eq W86.size.symm)) (Nat.le_of_eq W91.size.symm)) (Nat.le_of_eq W96.size.symm)) (Nat.le_of_eq W101.size.symm))
      have f132 := (((((((((((((((((((f12.wr W11).wr W16).wr W21).wr W26).wr W31).wr W36).wr W41).wr W46).wr W51).wr W56).wr W61).wr W66).wr W71).wr W76).wr W81).wr W86).wr W91).wr W96).wr W101)
      refine own_cv X101 hx hZ hown (notFace_of_selects (args := #[]) (mvT hZ (hw _ (own_m 48 rfl)))) (hw _ (own_m 45 rfl)) (hw _ (own_m 46 rfl)) (hw _ (own_m 48 rfl)) (hw _ (own_m 47 rfl)) (hw _ (own_m 3 rfl)) (hw _ (own_m 49 rfl)) (by decide) f132 (rm := { frames := 0, cells := 0, slots := 0, locals := 0 }) (rm_pr1 l Z a0 hw [] r_FLOAT r_DOUBLE t jj h101 n0 Z131 f129 f130 H_FLOAT H_DOUBLE) (by decide) (W := 0) (by decide) (by decide) (by decide) e101 (by rw [hml]; rfl) (argsL := [(.ref t)]) (lenOf own_pd0 rfl) (rest := []) rfl rfl (Nat.le_of_eq rfl) (hb hby at_205) ?_
      intro _ T127 L127 X127 hQ127
      obtain ⟨rfl, N127q, e127⟩ := hQ127
      have N127 := Fr.app N101 N127q
      show own_Go p e below _ (T127.setTop (mkF m 208 #[.val (.int x0), .val (.int x1), .val (.ref b1), .val (.int (1 : Int32)), .val (.int jj), .val (.int (1 : Int32))] [(.int (own_p1 jj))]))
      refine own_go (fun _ hr => XS.iload X127.here hx rfl (hb hby at_208) rfl hr) ?_
      show own_Go p e below _ (T127.setTop (mkF m 210 #[.val (.int x0), .val (.int x1), .val (.ref b1), .val (.int (1 : Int32)), .val (.int jj), .val (.int (1 : Int32))] [(.int (1 : Int32)), (.int (own_p1 jj))]))
      have c133 : (own_p1 jj) = (1 : Int32) := by
                        have q := hj20
                        have p0 := c126
                        clear hj20 ht Ft hjb
                        simp only [Int32.lt_iff_toInt_lt, ← Int32.toInt_inj, Int32.reduceToInt] at p0
                        rcases q with q | q | q | q | q | q | q | q | q | q | q | q | q | q | q | q | q | q | q | q <;> subst q <;> first | decide | (exfalso; revert p0; decide)
      refine own_go (fun _ hr => XS.icmpNo X127.here hx rfl (hb hby at_210) rfl (teq c133).2 hr) ?_
      show own_Go p e below _ (T127.setTop (mkF m 213 #[.val (.int x0), .val (.int x1), .val (.ref b1), .val (.int (1 : Int32)), .val (.int jj), .val (.int (1 : Int32))] []))
      refine own_go (fun _ hr => XS.iconst X127.here hx rfl (hb hby at_213) (XS.goto X127.here hx rfl (pc0 := 214) (pc' := 218) rfl (hb hby at_214) (by decide) (by decide) hr)) ?_
      show own_Go p e below _ (T127.setTop (mkF m 218 #[.val (.int x0), .val (.int x1), .val (.ref b1), .val (.int (1 : Int32)), .val (.int jj), .val (.int (1 : Int32))] [(.int (1 : Int32))]))
      exact own_retN X127 hx hlk Bd.returns (t := .boolean) (by simp) (hb hby at_218) (by decide) (by decide) ⟨rfl, N127⟩
    refine own_go (fun _ hr => XS.icmpNo X101.here hx rfl (hb hby at_160) rfl (feq c126).1 hr) ?_
    show own_Go p e below _ (T101.setTop (mkF m 163 #[.val (.int x0), .val (.int x1), .val (.ref b1), .val (.int (1 : Int32)), .val (.int jj), .unset] []))
    refine own_go (fun _ hr => XS.iloadN X101.here hx rfl (hb hby at_163) rfl (XS.iconst X101.here hx rfl (hb hby at_164) (XS.icmpNo X101.here hx rfl (hb hby at_165) rfl (flt (by decide)).2.2.1 (XS.iload X101.here hx rfl (hb hby at_168) rfl (XS.iloadN X101.here hx rfl (hb hby at_170) rfl hr))))) ?_
    show own_Go p e below _ (T101.setTop (mkF m 171 #[.val (.int x0), .val (.int x1), .val (.ref b1), .val (.int (1 : Int32)), .val (.int jj), .unset] [(.int (1 : Int32)), (.int jj)]))
    by_cases c134 : (1 : Int32) < jj
    · refine own_go (fun _ hr => XS.icmpNo X101.here hx rfl (hb hby at_171) rfl (tlt c134).2.2.2 hr) ?_
      show own_Go p e below _ (T101.setTop (mkF m 174 #[.val (.int x0), .val (.int x1), .val (.ref b1), .val (.int (1 : Int32)), .val (.int jj), .unset] []))
      refine own_go (fun _ hr => XS.iloadN X101.here hx rfl (hb hby at_174) rfl (XS.iconst X101.here hx rfl (hb hby at_175) (XS.icmpNo X101.here hx rfl (hb hby at_176) rfl (feq (by decide)).1 (XS.iloadN X101.here hx rfl (hb hby at_179) rfl (XS.bipush X101.here hx rfl (hb hby at_180) (XS.icmpYes X101.here hx rfl (pc0 := 182) (pc' := 195) rfl (hb hby at_182) rfl (feq (by decide)).2 (by decide) (by decide) (XS.iconst X101.here hx rfl (hb hby at_195) (XS.istore X101.here hx rfl (hb hby at_196) rfl (l' := #[.val (.int x0), .val (.int x1), .val (.ref b1), .val (.int (1 : Int32)), .val (.int jj), .val (.int (0 : Int32))]) rfl (XS.aloadN X101.here hx rfl (hb hby at_198) rfl rfl (XS.iloadN X101.here hx rfl (hb hby at_199) rfl hr)))))))))) ?_
      show own_Go p e below _ (T101.setTop (mkF m 200 #[.val (.int x0), .val (.int x1), .val (.ref b1), .val (.int (1 : Int32)), .val (.int jj), .val (.int (0 : Int32))] [(.int (1 : Int32)), (.ref b1)]))
      refine own_go (fun _ hr => own_aaload X101 hx hZ e101 f101 (1 : Int32) (.ref r_FLOAT) ⟨by decide, by decide⟩ rfl rfl rfl rfl (hb hby at_200) (XS.aloadN X101.here hx rfl (hb hby at_201) rfl rfl hr)) ?_
      show own_Go p e below _ (T101.setTop (mkF m 202 #[.val (.int x0), .val (.int x1), .val (.ref b1), .val (.int (1 : Int32)), .val (.int jj), .val (.int (0 : Int32))] [(.ref b1), (.ref r_FLOAT)]))
      obtain ⟨t, ht, Ft, hjb⟩ : ∃ t, ([(.ref r_DOUBLE), (.ref r_FLOAT), (.ref r_DECIMAL), (.ref r_INTEGER), (.ref r_STRING), (.ref r_ANY_URI), (.ref r_UNTYPED_ATOMIC), (.ref r_BOOLEAN), (.ref r_DATE_TIME), (.ref r_DATE), (.ref r_TIME), (.ref r_YEAR_MONTH_DURATION), (.ref r_DAY_TIME_DURATION), (.ref r_DURATION), (.ref r_G_YEAR_MONTH), (.ref r_G_YEAR), (.ref r_G_MONTH_DAY), (.ref r_G_DAY), (.ref r_G_MONTH), (.ref r_QNAME)] : List Value).getD jj.toNatClampNeg .null = .ref t ∧ Fld Z h0 t "java/lang/Enum" "ordinal" "I" (.int jj) ∧ (¬ jj < 0 ∧ jj < 20) := by
        rcases hj20 with q | q | q | q | q | q | q | q | q | q | q | q | q | q | q | q | q | q | q | q
        · subst q; exact ⟨r_DOUBLE, rfl, F_DOUBLE_ordinal, by decide, by decide⟩
        · subst q; exact ⟨r_FLOAT, rfl, F_FLOAT_ordinal, by decide, by decide⟩
        · subst q; exact ⟨r_DECIMAL, rfl, F_DECIMAL_ordinal, by decide, by decide⟩
        · subst q; exact ⟨r_INTEGER, rfl, F_INTEGER_ordinal, by decide, by decide⟩
        · subst q; exact ⟨r_STRING, rfl, F_STRING_ordinal, by decide, by decide⟩
        · subst q; exact ⟨r_ANY_URI, rfl, F_ANY_URI_ordinal, by decide, by decide⟩
        · subst q; exact ⟨r_UNTYPED_ATOMIC, rfl, F_UNTYPED_ATOMIC_ordinal, by decide, by decide⟩
        · subst q; exact ⟨r_BOOLEAN, rfl, F_BOOLEAN_ordinal, by decide, by decide⟩
        · subst q; exact ⟨r_DATE_TIME, rfl, F_DATE_TIME_ordinal, by decide, by decide⟩
        · subst q; exact ⟨r_DATE, rfl, F_DATE_ordinal, by decide, by decide⟩
        · subst q; exact ⟨r_TIME, rfl, F_TIME_ordinal, by decide, by decide⟩
        · subst q; exact ⟨r_YEAR_MONTH_DURATION, rfl, F_YEAR_MONTH_DURATION_ordinal, by decide, by decide⟩
        · subst q; exact ⟨r_DAY_TIME_DURATION, rfl, F_DAY_TIME_DURATION_ordinal, by decide, by decide⟩
        · subst q; exact ⟨r_DURATION, rfl, F_DURATION_ordinal, by decide, by decide⟩
        · subst q; exact ⟨r_G_YEAR_MONTH, rfl, F_G_YEAR_MONTH_ordinal, by decide, by decide⟩
        · subst q; exact ⟨r_G_YEAR, rfl, F_G_YEAR_ordinal, by decide, by decide⟩
        · subst q; exact ⟨r_G_MONTH_DAY, rfl, F_G_MONTH_DAY_ordinal, by decide, by decide⟩
        · subst q; exact ⟨r_G_DAY, rfl, F_G_DAY_ordinal, by decide, by decide⟩
        · subst q; exact ⟨r_G_MONTH, rfl, F_G_MONTH_ordinal, by decide, by decide⟩
        · subst q; exact ⟨r_QNAME, rfl, F_QNAME_ordinal, by decide, by decide⟩
      have H_FLOAT : r_FLOAT = t ↔ jj = (1 : Int32) := ⟨fun q => Value.int.inj (own_fld_eq Ft (q ▸ F_FLOAT_ordinal)), fun q => by subst q; exact Value.ref.inj ht⟩
      have H_DOUBLE : r_DOUBLE = t ↔ jj = (0 : Int32) := ⟨fun q => Value.int.inj (own_fld_eq Ft (q ▸ F_DOUBLE_ordinal)), fun q => by subst q; exact Value.ref.inj ht⟩
      refine own_go (fun _ hr => XS.iload X101.here hx rfl (hb hby at_202) rfl (own_aaload X101 hx hZ e101 f101 jj (.ref t) hjb ht rfl rfl rfl (hb hby at_204) hr)) ?_
      show own_Go p e below _ (T101.setTop (mkF m 205 #[.val (.int x0), .val (.int x1), .val (.ref b1), .val (.int (1 : Int32)), .val (.int jj), .val (.int (0 : Int32))] [(.ref t), (.ref r_FLOAT)]))
      have K136 := (K98.wr W101 (Or.inr sz3))
      have f137 := (F_FLOAT_promotion.keep K136 nin0)
      have f138 := (F_DOUBLE_promotion.keep K136 nin0)
      have Z139 := (Nat.le_trans (Nat.le_trans (Nat.le_trans (Nat.le_trans (Nat.le_trans (Nat.le_trans (Nat.le_trans (Nat.le_trans (Nat.le_trans (Nat.le_trans (Nat.le_trans (Nat.le_trans (Nat.le_trans (Nat.le_trans (Nat.le_trans (Nat.le_trans (Nat.le_trans (Nat.le_trans (Nat.le_trans (Nat.le_trans (Nat.le_trans Z0 E1.1) (Nat.le_of_eq W7.size.symm)) (Nat.le_of_eq W11.size.symm)) (Nat.le_of_eq W16.size.symm)) (Nat.le_of_eq W21.size.symm)) (Nat.le_of_eq W26.size.symm)) (Nat.le_of_eq W31.size.symm)) (Nat.le_of_eq W36.size.symm)) (Nat.le_of_eq W41.size.symm)) (Nat.le_of_eq W46.size.symm)) (Nat.le_of_eq W51.size.symm)) (Nat.le_of_eq W56.size.symm)) (Nat.le_of_eq W61.size.symm)) (Nat.le_of_eq W66.size.symm)) (Nat.le_of_eq W71.size.symm)) (Nat.le_of_eq W76.size.symm)) (Nat.le_of_eq W81.size.symm)) (Nat.le_of_eq W86.size.symm)) (Nat.le_of_eq W91.size.symm)) (Nat.le_of_eq W96.size.symm)) (Nat.le_of_eq W101.size.symm))
      have f140 := (((((((((((((((((((f12.wr W11).wr W16).wr W21).wr W26).wr W31).wr W36).wr W41).wr W46).wr W51).wr W56).wr W61).wr W66).wr W71).wr W76).wr W81).wr W86).wr W91).wr W96).wr W101)
      refine own_cv X101 hx hZ hown (notFace_of_selects (args := #[]) (mvT hZ (hw _ (own_m 48 rfl)))) (hw _ (own_m 45 rfl)) (hw _ (own_m 46 rfl)) (hw _ (own_m 48 rfl)) (hw _ (own_m 47 rfl)) (hw _ (own_m 3 rfl)) (hw _ (own_m 49 rfl)) (by decide) f140 (rm := { frames := 0, cells := 0, slots := 0, locals := 0 }) (rm_pr1 l Z a0 hw [] r_FLOAT r_DOUBLE t jj h101 n0 Z139 f137 f138 H_FLOAT H_DOUBLE) (by decide) (W := 0) (by decide) (by decide) (by decide) e101 (by rw [hml]; rfl) (argsL := [(.ref t)]) (lenOf own_pd0 rfl) (rest := []) rfl rfl (Nat.le_of_eq rfl) (hb hby at_205) ?_
      intro _ T135 L135 X135 hQ135
      obtain ⟨rfl, N135q, e135⟩ := hQ135
      have N135 := Fr.app N101 N135q
      show own_Go p e below _ (T135.setTop (mkF m 208 #[.val (.int x0), .val (.int x1), .val (.ref b1), .val (.int (1 : Int32)), .val (.int jj), .val (.int (0 : Int32))] [(.int (own_p1 jj))]))
      refine own_go (fun _ hr => XS.iload X135.here hx rfl (hb hby at_208) rfl hr) ?_
      show own_Go p e below _ (T135.setTop (mkF m 210 #[.val (.int x0), .val (.int x1), .val (.ref b1), .val (.int (1 : Int32)), .val (.int jj), .val (.int (0 : Int32))] [(.int (0 : Int32)), (.int (own_p1 jj))]))
      have c141 : (own_p1 jj) = (0 : Int32) := by
                        have q := hj20
                        have p0 := c126
                        have p1 := c134
                        clear hj20 ht Ft hjb
                        simp only [Int32.lt_iff_toInt_lt, ← Int32.toInt_inj, Int32.reduceToInt] at p0 p1
                        rcases q with q | q | q | q | q | q | q | q | q | q | q | q | q | q | q | q | q | q | q | q <;> subst q <;> first | decide | (exfalso; revert p0 p1; decide)
      refine own_go (fun _ hr => XS.icmpNo X135.here hx rfl (hb hby at_210) rfl (teq c141).2 hr) ?_
      show own_Go p e below _ (T135.setTop (mkF m 213 #[.val (.int x0), .val (.int x1), .val (.ref b1), .val (.int (1 : Int32)), .val (.int jj), .val (.int (0 : Int32))] []))
      refine own_go (fun _ hr => XS.iconst X135.here hx rfl (hb hby at_213) (XS.goto X135.here hx rfl (pc0 := 214) (pc' := 218) rfl (hb hby at_214) (by decide) (by decide) hr)) ?_
      show own_Go p e below _ (T135.setTop (mkF m 218 #[.val (.int x0), .val (.int x1), .val (.ref b1), .val (.int (1 : Int32)), .val (.int jj), .val (.int (0 : Int32))] [(.int (1 : Int32))]))
      exact own_retN X135 hx hlk Bd.returns (t := .boolean) (by simp) (hb hby at_218) (by decide) (by decide) ⟨rfl, N135⟩
    refine own_go (fun _ hr => XS.icmpYes X101.here hx rfl (pc0 := 171) (pc' := 191) rfl (hb hby at_171) rfl (flt c134).2.2.2 (by decide) (by decide) hr) ?_
    show own_Go p e below _ (T101.setTop (mkF m 191 #[.val (.int x0), .val (.int x1), .val (.ref b1), .val (.int (1 : Int32)), .val (.int jj), .unset] []))
    refine own_go (fun _ hr => XS.iconst X101.here hx rfl (hb hby at_191) (XS.goto X101.here hx rfl (pc0 := 192) (pc' := 196) rfl (hb hby at_192) (by decide) (by decide) (XS.istore X101.here hx rfl (hb hby at_196) rfl (l' := #[.val (.int x0), .val (.int x1), .val (.ref b1), .val (.int (1 : Int32)), .val (.int jj), .val (.int (1 : Int32))]) rfl (XS.aloadN X101.here hx rfl (hb hby at_198) rfl rfl (XS.iloadN X101.here hx rfl (hb hby at_199) rfl (own_aaload X101 hx hZ e101 f101 (1 : Int32) (.ref r_FLOAT) ⟨by decide, by decide⟩ rfl rfl rfl rfl (hb hby at_200) (XS.aloadN X101.here hx rfl (hb hby at_201) rfl rfl hr))))))) ?_
    show own_Go p e below _ (T101.setTop (mkF m 202 #[.val (.int x0), .val (.int x1), .val (.ref b1), .val (.int (1 : Int32)), .val (.int jj), .val (.int (1 : Int32))] [(.ref b1), (.ref r_FLOAT)]))
    obtain ⟨t, ht, Ft, hjb⟩ : ∃ t, ([(.ref r_DOUBLE), (.ref r_FLOAT), (.ref r_DECIMAL), (.ref r_INTEGER), (.ref r_STRING), (.ref r_ANY_URI), (.ref r_UNTYPED_ATOMIC), (.ref r_BOOLEAN), (.ref r_DATE_TIME), (.ref r_DATE), (.ref r_TIME), (.ref r_YEAR_MONTH_DURATION), (.ref r_DAY_TIME_DURATION), (.ref r_DURATION), (.ref r_G_YEAR_MONTH), (.ref r_G_YEAR), (.ref r_G_MONTH_DAY), (.ref r_G_DAY), (.ref r_G_MONTH), (.ref r_QNAME)] : List Value).getD jj.toNatClampNeg .null = .ref t ∧ Fld Z h0 t "java/lang/Enum" "ordinal" "I" (.int jj) ∧ (¬ jj < 0 ∧ jj < 20) := by
      rcases hj20 with q | q | q | q | q | q | q | q | q | q | q | q | q | q | q | q | q | q | q | q
      · subst q; exact ⟨r_DOUBLE, rfl, F_DOUBLE_ordinal, by decide, by decide⟩
      · subst q; exact ⟨r_FLOAT, rfl, F_FLOAT_ordinal, by decide, by decide⟩
      · subst q; exact ⟨r_DECIMAL, rfl, F_DECIMAL_ordinal, by decide, by decide⟩
      · subst q; exact ⟨r_INTEGER, rfl, F_INTEGER_ordinal, by decide, by decide⟩
      · subst q; exact ⟨r_STRING, rfl, F_STRING_ordinal, by decide, by decide⟩
      · subst q; exact ⟨r_ANY_URI, rfl, F_ANY_URI_ordinal, by decide, by decide⟩
      · subst q; exact ⟨r_UNTYPED_ATOMIC, rfl, F_UNTYPED_ATOMIC_ordinal, by decide, by decide⟩
      · subst q; exact ⟨r_BOOLEAN, rfl, F_BOOLEAN_ordinal, by decide, by decide⟩
      · subst q; exact ⟨r_DATE_TIME, rfl, F_DATE_TIME_ordinal, by decide, by decide⟩
      · subst q; exact ⟨r_DATE, rfl, F_DATE_ordinal, by decide, by decide⟩
      · subst q; exact ⟨r_TIME, rfl, F_TIME_ordinal, by decide, by decide⟩
      · subst q; exact ⟨r_YEAR_MONTH_DURATION, rfl, F_YEAR_MONTH_DURATION_ordinal, by decide, by decide⟩
      · subst q; exact ⟨r_DAY_TIME_DURATION, rfl, F_DAY_TIME_DURATION_ordinal, by decide, by decide⟩
      · subst q; exact ⟨r_DURATION, rfl, F_DURATION_ordinal, by decide, by decide⟩
      · subst q; exact ⟨r_G_YEAR_MONTH, rfl, F_G_YEAR_MONTH_ordinal, by decide, by decide⟩
      · subst q; exact ⟨r_G_YEAR, rfl, F_G_YEAR_ordinal, by decide, by decide⟩
      · subst q; exact ⟨r_G_MONTH_DAY, rfl, F_G_MONTH_DAY_ordinal, by decide, by decide⟩
      · subst q; exact ⟨r_G_DAY, rfl, F_G_DAY_ordinal, by decide, by decide⟩
      · subst q; exact ⟨r_G_MONTH, rfl, F_G_MONTH_ordinal, by decide, by decide⟩
      · subst q; exact ⟨r_QNAME, rfl, F_QNAME_ordinal, by decide, by decide⟩
    have H_FLOAT : r_FLOAT = t ↔ jj = (1 : Int32) := ⟨fun q => Value.int.inj (own_fld_eq Ft (q ▸ F_FLOAT_ordinal)), fun q => by subst q; exact Value.ref.inj ht⟩
    have H_DOUBLE : r_DOUBLE = t ↔ jj = (0 : Int32) := ⟨fun q => Value.int.inj (own_fld_eq Ft (q ▸ F_DOUBLE_ordinal)), fun q => by subst q; exact Value.ref.inj ht⟩
    refine own_go (fun _ hr => XS.iload X101.here hx rfl (hb hby at_202) rfl (own_aaload X101 hx hZ e101 f101 jj (.ref t) hjb ht rfl rfl rfl (hb hby at_204) hr)) ?_
    show own_Go p e below _ (T101.setTop (mkF m 205 #[.val (.int x0), .val (.int x1), .val (.ref b1), .val (.int (1 : Int32)), .val (.int jj), .val (.int (1 : Int32))] [(.ref t), (.ref r_FLOAT)]))
    have K143 := (K98.wr W101 (Or.inr sz3))
    have f144 := (F_FLOAT_promotion.keep K143 nin0)
    have f145 := (F_DOUBLE_promotion.keep K143 nin0)
    have Z146 := (Nat.le_trans (Nat.le_trans (Nat.le_trans (Nat.le_trans (Nat.le_trans (Nat.le_trans (Nat.le_trans (Nat.le_trans (Nat.le_trans (Nat.le_trans (Nat.le_trans (Nat.le_trans (Nat.le_trans (Nat.le_trans (Nat.le_trans (Nat.le_trans (Nat.le_trans (Nat.le_trans (Nat.le_trans (Nat.le_trans (Nat.le_trans Z0 E1.1) (Nat.le_of_eq W7.size.symm)) (Nat.le_of_eq W11.size.symm)) (Nat.le_of_eq W16.size.symm)) (Nat.le_of_eq W21.size.symm)) (Nat.le_of_eq W26.size.symm)) (Nat.le_of_eq W31.size.symm)) (Nat.le_of_eq W36.size.symm)) (Nat.le_of_eq W41.size.symm)) (Nat.le_of_eq W46.size.symm)) (Nat.le_of_eq W51.size.symm)) (Nat.le_of_eq W56.size.symm)) (Nat.le_of_eq W61.size.symm)) (Nat.le_of_eq W66.size.symm)) (Nat.le_of_eq W71.size.symm)) (Nat.le_of_eq W76.size.symm)) (Nat.le_of_eq W81.size.symm)) (Nat.le_of_eq W86.size.symm)) (Nat.le_of_eq W91.size.symm)) (Nat.le_of_eq W96.size.symm)) (Nat.le_of_eq W101.size.symm))
    have f147 := (((((((((((((((((((f12.wr W11).wr W16).wr W21).wr W26).wr W31).wr W36).wr W41).wr W46).wr W51).wr W56).wr W61).wr W66).wr W71).wr W76).wr W81).wr W86).wr W91).wr W96).wr W101)
    refine own_cv X101 hx hZ hown (notFace_of_selects (args := #[]) (mvT hZ (hw _ (own_m 48 rfl)))) (hw _ (own_m 45 rfl)) (hw _ (own_m 46 rfl)) (hw _ (own_m 48 rfl)) (hw _ (own_m 47 rfl)) (hw _ (own_m 3 rfl)) (hw _ (own_m 49 rfl)) (by decide) f147 (rm := { frames := 0, cells := 0, slots := 0, locals := 0 }) (rm_pr1 l Z a0 hw [] r_FLOAT r_DOUBLE t jj h101 n0 Z146 f144 f145 H_FLOAT H_DOUBLE) (by decide) (W := 0) (by decide) (by decide) (by decide) e101 (by rw [hml]; rfl) (argsL := [(.ref t)]) (lenOf own_pd0 rfl) (rest := []) rfl rfl (Nat.le_of_eq rfl) (hb hby at_205) ?_
    intro _ T142 L142 X142 hQ142
    obtain ⟨rfl, N142q, e142⟩ := hQ142
    have N142 := Fr.app N101 N142q
    show own_Go p e below _ (T142.setTop (mkF m 208 #[.val (.int x0), .val (.int x1), .val (.ref b1), .val (.int (1 : Int32)), .val (.int jj), .val (.int (1 : Int32))] [(.int (own_p1 jj))]))
    refine own_go (fun _ hr => XS.iload X142.here hx rfl (hb hby at_208) rfl hr) ?_
    show own_Go p e below _ (T142.setTop (mkF m 210 #[.val (.int x0), .val (.int x1), .val (.ref b1), .val (.int (1 : Int32)), .val (.int jj), .val (.int (1 : Int32))] [(.int (1 : Int32)), (.int (own_p1 jj))]))
    have c148 : (own_p1 jj) = (1 : Int32) := by
                        have q := hj20
                        have p0 := c126
                        have p1 := c134
                        clear hj20 ht Ft hjb
                        simp only [Int32.lt_iff_toInt_lt, ← Int32.toInt_inj, Int32.reduceToInt] at p0 p1
                        rcases q with q | q | q | q | q | q | q | q | q | q | q | q | q | q | q | q | q | q | q | q <;> subst q <;> first | decide | (exfalso; revert p0 p1; decide)
    refine own_go (fun _ hr => XS.icmpNo X142.here hx rfl (hb hby at_210) rfl (teq c148).2 hr) ?_
    show own_Go p e below _ (T142.setTop (mkF m 213 #[.val (.int x0), .val (.int x1), .val (.ref b1), .val (.int (1 : Int32)), .val (.int jj), .val (.int (1 : Int32))] []))
    refine own_go (fun _ hr => XS.iconst X142.here hx rfl (hb hby at_213) (XS.goto X142.here hx rfl (pc0 := 214) (pc' := 218) rfl (hb hby at_214) (by decide) (by decide) hr)) ?_
    show own_Go p e below _ (T142.setTop (mkF m 218 #[.val (.int x0), .val (.int x1), .val (.ref b1), .val (.int (1 : Int32)), .val (.int jj), .val (.int (1 : Int32))] [(.int (1 : Int32))]))
    exact own_retN X142 hx hlk Bd.returns (t := .boolean) (by simp) (hb hby at_218) (by decide) (by decide) ⟨rfl, N142⟩
  · rw [hk105]
    show own_Go p e below _ (T101.setTop (mkF m 157 #[.val (.int x0), .val (.int x1), .val (.ref b1), .val (.int (2 : Int32)), .val (.int jj), .unset] []))
    refine own_go (fun _ hr => XS.iloadN X101.here hx rfl (hb hby at_157) rfl (XS.iload X101.here hx rfl (hb hby at_158) rfl hr)) ?_
    show own_Go p e below _ (T101.setTop (mkF m 160 #[.val (.int x0), .val (.int x1), .val (.ref b1), .val (.int (2 : Int32)), .val (.int jj), .unset] [(.int jj), (.int (2 : Int32))]))
    by_cases c149 : (2 : Int32) = jj
    · refine own_go (fun _ hr => XS.icmpYes X101.here hx rfl (pc0 := 160) (pc' := 191) rfl (hb hby at_160) rfl (teq c149).1 (by decide) (by decide) hr) ?_
      show own_Go p e below _ (T101.setTop (mkF m 191 #[.val (.int x0), .val (.int x1), .val (.ref b1), .val (.int (2 : Int32)), .val (.int jj), .unset] []))
      refine own_go (fun _ hr => XS.iconst X101.here hx rfl (hb hby at_191) (XS.goto X101.here hx rfl (pc0 := 192) (pc' := 196) rfl (hb hby at_192) (by decide) (by decide) (XS.istore X101.here hx rfl (hb hby at_196) rfl (l' := #[.val (.int x0), .val (.int x1), .val (.ref b1), .val (.int (2 : Int32)), .val (.int jj), .val (.int (1 : Int32))]) rfl (XS.aloadN X101.here hx rfl (hb hby at_198) rfl rfl (XS.iloadN X101.here hx rfl (hb hby at_199) rfl (own_aaload X101 hx hZ e101 f101 (2 : Int32) (.ref r_DECIMAL) ⟨by decide, by decide⟩ rfl rfl rfl rfl (hb hby at_200) (XS.aloadN X101.here hx rfl (hb hby at_201) rfl rfl hr))))))) ?_
      show own_Go p e below _ (T101.setTop (mkF m 202 #[.val (.int x0), .val (.int x1), .val (.ref b1), .val (.int (2 : Int32)), .val (.int jj), .val (.int (1 : Int32))] [(.ref b1), (.ref r_DECIMAL)]))
      obtain ⟨t, ht, Ft, hjb⟩ : ∃ t, ([(.ref r_DOUBLE), (.ref r_FLOAT), (.ref r_DECIMAL), (.ref r_INTEGER), (.ref r_STRING), (.ref r_ANY_URI), (.ref r_UNTYPED_ATOMIC), (.ref r_BOOLEAN), (.ref r_DATE_TIME), (.ref r_DATE), (.ref r_TIME), (.ref r_YEAR_MONTH_DURATION), (.ref r_DAY_TIME_DURATION), (.ref r_DURATION), (.ref r_G_YEAR_MONTH), (.ref r_G_YEAR), (.ref r_G_MONTH_DAY), (.ref r_G_DAY), (.ref r_G_MONTH), (.ref r_QNAME)] : List Value).getD jj.toNatClampNeg .null = .ref t ∧ Fld Z h0 t "java/lang/Enum" "ordinal" "I" (.int jj) ∧ (¬ jj < 0 ∧ jj < 20) := by
        rcases hj20 with q | q | q | q | q | q | q | q | q | q | q | q | q | q | q | q | q | q | q | q
        · subst q; exact ⟨r_DOUBLE, rfl, F_DOUBLE_ordinal, by decide, by decide⟩
        · subst q; exact ⟨r_FLOAT, rfl, F_FLOAT_ordinal, by decide, by decide⟩
        · subst q; exact ⟨r_DECIMAL, rfl, F_DECIMAL_ordinal, by decide, by decide⟩
        · subst q; exact ⟨r_INTEGER, rfl, F_INTEGER_ordinal, by decide, by decide⟩
        · subst q; exact ⟨r_STRING, rfl, F_STRING_ordinal, by decide, by decide⟩
        · subst q; exact ⟨r_ANY_URI, rfl, F_ANY_URI_ordinal, by decide, by decide⟩
        · subst q; exact ⟨r_UNTYPED_ATOMIC, rfl, F_UNTYPED_ATOMIC_ordinal, by decide, by decide⟩
        · subst q; exact ⟨r_BOOLEAN, rfl, F_BOOLEAN_ordinal, by decide, by decide⟩
        · subst q; exact ⟨r_DATE_TIME, rfl, F_DATE_TIME_ordinal, by decide, by decide⟩
        · subst q; exact ⟨r_DATE, rfl, F_DATE_ordinal, by decide, by decide⟩
        · subst q; exact ⟨r_TIME, rfl, F_TIME_ordinal, by decide, by decide⟩
        · subst q; exact ⟨r_YEAR_MONTH_DURATION, rfl, F_YEAR_MONTH_DURATION_ordinal, by decide, by decide⟩
        · subst q; exact ⟨r_DAY_TIME_DURATION, rfl, F_DAY_TIME_DURATION_ordinal, by decide, by decide⟩
        · subst q; exact ⟨r_DURATION, rfl, F_DURATION_ordinal, by decide, by decide⟩
        · subst q; exact ⟨r_G_YEAR_MONTH, rfl, F_G_YEAR_MONTH_ordinal, by decide, by decide⟩
        · subst q; exact ⟨r_G_YEAR, rfl, F_G_YEAR_ordinal, by decide, by decide⟩
        · subst q; exact ⟨r_G_MONTH_DAY, rfl, F_G_MONTH_DAY_ordinal, by decide, by decide⟩
        · subst q; exact ⟨r_G_DAY, rfl, F_G_DAY_ordinal, by decide, by decide⟩
        · subst q; exact ⟨r_G_MONTH, rfl, F_G_MONTH_ordinal, by decide, by decide⟩
        · subst q; exact ⟨r_QNAME, rfl, F_QNAME_ordinal, by decide, by decide⟩
      have H_DECIMAL : r_DECIMAL = t ↔ jj = (2 : Int32) := ⟨fun q => Value.int.inj (own_fld_eq Ft (q ▸ F_DECIMAL_ordinal)), fun q => by subst q; exact Value.ref.inj ht⟩
      have H_FLOAT : r_FLOAT = t ↔ jj = (1 : Int32) := ⟨fun q => Value.int.inj (own_fld_eq Ft (q ▸ F_FLOAT_ordinal)), fun q => by subst q; exact Value.ref.inj ht⟩
      have H_DOUBLE : r_DOUBLE = t ↔ jj = (0 : Int32) := ⟨fun q => Value.int.inj (own_fld_eq Ft (q ▸ F_DOUBLE_ordinal)), fun q => by subst q; exact Value.ref.inj ht⟩
      refine own_go (fun _ hr => XS.iload X101.here hx rfl (hb hby at_202) rfl (own_aaload X101 hx hZ e101 f101 jj (.ref t) hjb ht rfl rfl rfl (hb hby at_204) hr)) ?_
      show own_Go p e below _ (T101.setTop (mkF m 205 #[.val (.int x0), .val (.int x1), .val (.ref b1), .val (.int (2 : Int32)), .val (.int jj), .val (.int (1 : Int32))] [(.ref t), (.ref r_DECIMAL)]))
      have K151 := (K98.wr W101 (Or.inr sz3))
      have f152 := (F_DECIMAL_promotion.keep K151 nin0)
      have f153 := (F_FLOAT_promotion.keep K151 nin0)
      have f154 := (F_DOUBLE_promotion.keep K151 nin0)
      have Z155 := (Nat.le_trans (Nat.le_trans (Nat.le_trans (Nat.le_trans (Nat.le_trans (Nat.le_trans (Nat.le_trans (Nat.le_trans (Nat.le_trans (Nat.le_trans (Nat.le_trans (Nat.le_trans (Nat.le_trans (Nat.le_trans (Nat.le_trans (Nat.le_trans (Nat.le_trans (Nat.le_trans (Nat.le_trans (Nat.le_trans (Nat.le_trans Z0 E1.1) (Nat.le_of_eq W7.size.symm)) (Nat.le_of_eq W11.size.symm)) (Nat.le_of_eq W16.size.symm)) (Nat.le_of_eq W21.size.symm)) (Nat.le_of_eq W26.size.symm)) (Nat.le_of_eq W31.size.symm)) (Nat.le_of_eq W36.size.symm)) (Nat.le_of_eq W41.size.symm)) (Nat.le_of_eq W46.size.symm)) (Nat.le_of_eq W51.size.symm)) (Nat.le_of_eq W56.size.symm)) (Nat.le_of_eq W61.size.symm)) (Nat.le_of_eq W66.size.symm)) (Nat.le_of_eq W71.size.symm)) (Nat.le_of_eq W76.size.symm)) (Nat.le_of_eq W81.size.symm)) (Nat.le_of_eq W86.size.symm)) (Nat.le_of_eq W91.size.symm)) (Nat.le_of_eq W96.size.symm)) (Nat.le_of_eq W101.size.symm))
      have f156 := ((((((((((((((((((f17.wr W16).wr W21).wr W26).wr W31).wr W36).wr W41).wr W46).wr W51).wr W56).wr W61).wr W66).wr W71).wr W76).wr W81).wr W86).wr W91).wr W96).wr W101)
      refine own_cv X101 hx hZ hown (notFace_of_selects (args := #[]) (mvT hZ (hw _ (own_m 48 rfl)))) (hw _ (own_m 45 rfl)) (hw _ (own_m 46 rfl)) (hw _ (own_m 48 rfl)) (hw _ (own_m 47 rfl)) (hw _ (own_m 3 rfl)) (hw _ (own_m 49 rfl)) (by decide) f156 (rm := { frames := 0, cells := 0, slots := 0, locals := 0 }) (rm_pr2 l Z a0 hw [] r_DECIMAL r_FLOAT r_DOUBLE t jj h101 n0 Z155 f152 f153 f154 H_DECIMAL H_FLOAT H_DOUBLE) (by decide) (W := 0) (by decide) (by decide) (by decide) e101 (by rw [hml]; rfl) (argsL := [(.ref t)]) (lenOf own_pd0 rfl) (rest := []) rfl rfl (Nat.le_of_eq rfl) (hb hby at_205) ?_
      intro _ T150 L150 X150 hQ150
      obtain ⟨rfl, N150q, e150⟩ := hQ150
      have N150 := Fr.app N101 N150q
      show own_Go p e below _ (T150.setTop (mkF m 208 #[.val (.int x0), .val (.int x1), .val (.ref b1), .val (.int (2 : Int32)), .val (.int jj), .val (.int (1 : Int32))] [(.int (own_p2 jj))]))
      refine own_go (fun _ hr => XS.iload X150.here hx rfl (hb hby at_208) rfl hr) ?_
      show own_Go p e below _ (T150.setTop (mkF m 210 #[.val (.int x0), .val (.int x1), .val (.ref b1), .val (.int (2 : Int32)), .val (.int jj), .val (.int (1 : Int32))] [(.int (1 : Int32)), (.int (own_p2 jj))]))
      have c157 : (own_p2 jj) = (1 : Int32) := by
                        have q := hj20
                        have p0 := c149
                        clear hj20 ht Ft hjb
                        simp only [Int32.lt_iff_toInt_lt, ← Int32.toInt_inj, Int32.reduceToInt] at p0
                        rcases q with q | q | q | q | q | q | q | q | q | q | q | q | q | q | q | q | q | q | q | q <;> subst q <;> first | decide | (exfalso; revert p0; decide)
      refine own_go (fun _ hr => XS.icmpNo X150.here hx rfl (hb hby at_210) rfl (teq c157).2 hr) ?_
      show own_Go p e below _ (T150.setTop (mkF m 213 #[.val (.int x0), .val (.int x1), .val (.ref b1), .val (.int (2 : Int32)), .val (.int jj), .val (.int (1 : Int32))] []))
      refine own_go (fun _ hr => XS.iconst X150.here hx rfl (hb hby at_213) (XS.goto X150.here hx rfl (pc0 := 214) (pc' := 218) rfl (hb hby at_214) (by decide) (by decide) hr)) ?_
      show own_Go p e below _ (T150.setTop (mkF m 218 #[.val (.int x0), .val (.int x1), .val (.ref b1), .val (.int (2 : Int32)), .val (.int jj), .val (.int (1 : Int32))] [(.int (1 : Int32))]))
      exact own_retN X150 hx hlk Bd.returns (t := .boolean) (by simp) (hb hby at_218) (by decide) (by decide) ⟨rfl, N150⟩
    refine own_go (fun _ hr => XS.icmpNo X101.here hx rfl (hb hby at_160) rfl (feq c149).1 hr) ?_
    show own_Go p e below _ (T101.setTop (mkF m 163 #[.val (.int x0), .val (.int x1), .val (.ref b1), .val (.int (2 : Int32)), .val (.int jj), .unset] []))
    refine own_go (fun _ hr => XS.iloadN X101.here hx rfl (hb hby at_163) rfl (XS.iconst X101.here hx rfl (hb hby at_164) (XS.icmpNo X101.here hx rfl (hb hby at_165) rfl (flt (by decide)).2.2.1 (XS.iload X101.here hx rfl (hb hby at_168) rfl (XS.iloadN X101.here hx rfl (hb hby at_170) rfl hr))))) ?_
    show own_Go p e below _ (T101.setTop (mkF m 171 #[.val (.int x0), .val (.int x1), .val (.ref b1), .val (.int (2 : Int32)), .val (.int jj), .unset] [(.int (2 : Int32)), (.int jj)]))
    by_cases c158 : (2 : Int32) < jj
    · refine own_go (fun _ hr => XS.icmpNo X101.here hx rfl (hb hby at_171) rfl (tlt c158).2.2.2 hr) ?_
      show own_Go p e below _ (T101.setTop (mkF m 174 #[.val (.int x0), .val (.int x1), .val (.ref b1), .val (.int (2 : Int32)), .val (.int jj), .unset] []))
      refine own_go (fun _ hr => XS.iloadN X101.here hx rfl (hb hby at_174) rfl (XS.iconst X101.here hx rfl (hb hby at_175) (XS.icmpNo X101.here hx rfl (hb hby at_176) rfl (feq (by decide)).1 (XS.iloadN X101.here hx rfl (hb hby at_179) rfl (XS.bipush X101.here hx rfl (hb hby at_180) (XS.icmpYes X101.here hx rfl (pc0 := 182) (pc' := 195) rfl (hb hby at_182) rfl (feq (by decide)).2 (by decide) (by decide) (XS.iconst X101.here hx rfl (hb hby at_195) (XS.istore X101.here hx rfl (hb hby at_196) rfl (l' := #[.val (.int x0), .val (.int x1), .val (.ref b1), .val (.int (2 : Int32)), .val (.int jj), .val (.int (0 : Int32))]) rfl (XS.aloadN X101.here hx rfl (hb hby at_198) rfl rfl (XS.iloadN X101.here hx rfl (hb hby at_199) rfl hr)))))))))) ?_
      show own_Go p e below _ (T101.setTop (mkF m 200 #[.val (.int x0), .val (.int x1), .val (.ref b1), .val (.int (2 : Int32)), .val (.int jj), .val (.int (0 : Int32))] [(.int (2 : Int32)), (.ref b1)]))
      refine own_go (fun _ hr => own_aaload X101 hx hZ e101 f101 (2 : Int32) (.ref r_DECIMAL) ⟨by decide, by decide⟩ rfl rfl rfl rfl (hb hby at_200) (XS.aloadN X101.here hx rfl (hb hby at_201) rfl rfl hr)) ?_
      show own_Go p e below _ (T101.setTop (mkF m 202 #[.val (.int x0), .val (.int x1), .val (.ref b1), .val (.int (2 : Int32)), .val (.int jj), .val (.int (0 : Int32))] [(.ref b1), (.ref r_DECIMAL)]))
      obtain ⟨t, ht, Ft, hjb⟩ : ∃ t, ([(.ref r_DOUBLE), (.ref r_FLOAT), (.ref r_DECIMAL), (.ref r_INTEGER), (.ref r_STRING), (.ref r_ANY_URI), (.ref r_UNTYPED_ATOMIC), (.ref r_BOOLEAN), (.ref r_DATE_TIME), (.ref r_DATE), (.ref r_TIME), (.ref r_YEAR_MONTH_DURATION), (.ref r_DAY_TIME_DURATION), (.ref r_DURATION), (.ref r_G_YEAR_MONTH), (.ref r_G_YEAR), (.ref r_G_MONTH_DAY), (.ref r_G_DAY), (.ref r_G_MONTH), (.ref r_QNAME)] : List Value).getD jj.toNatClampNeg .null = .ref t ∧ Fld Z h0 t "java/lang/Enum" "ordinal" "I" (.int jj) ∧ (¬ jj < 0 ∧ jj < 20) := by
        rcases hj20 with q | q | q | q | q | q | q | q | q | q | q | q | q | q | q | q | q | q | q | q
        · subst q; exact ⟨r_DOUBLE, rfl, F_DOUBLE_ordinal, by decide, by decide⟩
        · subst q; exact ⟨r_FLOAT, rfl, F_FLOAT_ordinal, by decide, by decide⟩
        · subst q; exact ⟨r_DECIMAL, rfl, F_DECIMAL_ordinal, by decide, by decide⟩
        · subst q; exact ⟨r_INTEGER, rfl, F_INTEGER_ordinal, by decide, by decide⟩
        · subst q; exact ⟨r_STRING, rfl, F_STRING_ordinal, by decide, by decide⟩
        · subst q; exact ⟨r_ANY_URI, rfl, F_ANY_URI_ordinal, by decide, by decide⟩
        · subst q; exact ⟨r_UNTYPED_ATOMIC, rfl, F_UNTYPED_ATOMIC_ordinal, by decide, by decide⟩
        · subst q; exact ⟨r_BOOLEAN, rfl, F_BOOLEAN_ordinal, by decide, by decide⟩
        · subst q; exact ⟨r_DATE_TIME, rfl, F_DATE_TIME_ordinal, by decide, by decide⟩
        · subst q; exact ⟨r_DATE, rfl, F_DATE_ordinal, by decide, by decide⟩
        · subst q; exact ⟨r_TIME, rfl, F_TIME_ordinal, by decide, by decide⟩
        · subst q; exact ⟨r_YEAR_MONTH_DURATION, rfl, F_YEAR_MONTH_DURATION_ordinal, by decide, by decide⟩
        · subst q; exact ⟨r_DAY_TIME_DURATION, rfl, F_DAY_TIME_DURATION_ordinal, by decide, by decide⟩
        · subst q; exact ⟨r_DURATION, rfl, F_DURATION_ordinal, by decide, by decide⟩
        · subst q; exact ⟨r_G_YEAR_MONTH, rfl, F_G_YEAR_MONTH_ordinal, by decide, by decide⟩
        · subst q; exact ⟨r_G_YEAR, rfl, F_G_YEAR_ordinal, by decide, by decide⟩
        · subst q; exact ⟨r_G_MONTH_DAY, rfl, F_G_MONTH_DAY_ordinal, by decide, by decide⟩
        · subst q; exact ⟨r_G_DAY, rfl, F_G_DAY_ordinal, by decide, by decide⟩
        · subst q; exact ⟨r_G_MONTH, rfl, F_G_MONTH_ordinal, by decide, by decide⟩
        · subst q; exact ⟨r_QNAME, rfl, F_QNAME_ordinal, by decide, by decide⟩
      have H_DECIMAL : r_DECIMAL = t ↔ jj = (2 : Int32) := ⟨fun q => Value.int.inj (own_fld_eq Ft (q ▸ F_DECIMAL_ordinal)), fun q => by subst q; exact Value.ref.inj ht⟩
      have H_FLOAT : r_FLOAT = t ↔ jj = (1 : Int32) := ⟨fun q => Value.int.inj (own_fld_eq Ft (q ▸ F_FLOAT_ordinal)), fun q => by subst q; exact Value.ref.inj ht⟩
      have H_DOUBLE : r_DOUBLE = t ↔ jj = (0 : Int32) := ⟨fun q => Value.int.inj (own_fld_eq Ft (q ▸ F_DOUBLE_ordinal)), fun q => by subst q; exact Value.ref.inj ht⟩
      refine own_go (fun _ hr => XS.iload X101.here hx rfl (hb hby at_202) rfl (own_aaload X101 hx hZ e101 f101 jj (.ref t) hjb ht rfl rfl rfl (hb hby at_204) hr)) ?_
      show own_Go p e below _ (T101.setTop (mkF m 205 #[.val (.int x0), .val (.int x1), .val (.ref b1), .val (.int (2 : Int32)), .val (.int jj), .val (.int (0 : Int32))] [(.ref t), (.ref r_DECIMAL)]))
      have K160 := (K98.wr W101 (Or.inr sz3))
      have f161 := (F_DECIMAL_promotion.keep K160 nin0)
      have f162 := (F_FLOAT_promotion.keep K160 nin0)
      have f163 := (F_DOUBLE_promotion.keep K160 nin0)
      have Z164 := (Nat.le_trans (Nat.le_trans (Nat.le_trans (Nat.le_trans (Nat.le_trans (Nat.le_trans (Nat.le_trans (Nat.le_trans (Nat.le_trans (Nat.le_trans (Nat.le_trans (Nat.le_trans (Nat.le_trans (Nat.le_trans (Nat.le_trans (Nat.le_trans (Nat.le_trans (Nat.le_trans (Nat.le_trans (Nat.le_trans (Nat.le_trans Z0 E1.1) (Nat.le_of_eq W7.size.symm)) (Nat.le_of_eq W11.size.symm)) (Nat.le_of_eq W16.size.symm)) (Nat.le_of_eq W21.size.symm)) (Nat.le_of_eq W26.size.symm)) (Nat.le_of_eq W31.size.symm)) (Nat.le_of_eq W36.size.symm)) (Nat.le_of_eq W41.size.symm)) (Nat.le_of_eq W46.size.symm)) (Nat.le_of_eq W51.size.symm)) (Nat.le_of_eq W56.size.symm)) (Nat.le_of_eq W61.size.symm)) (Nat.le_of_eq W66.size.symm)) (Nat.le_of_eq W71.size.symm)) (Nat.le_of_eq W76.size.symm)) (Nat.le_of_eq W81.size.symm)) (Nat.le_of_eq W86.size.symm)) (Nat.le_of_eq W91.size.symm)) (Nat.le_of_eq W96.size.symm)) (Nat.le_of_eq W101.size.symm))
      have f165 := ((((((((((((((((((f17.wr W16).wr W21).wr W26).wr W31).wr W36).wr W41).wr W46).wr W51).wr W56).wr W61).wr W66).wr W71).wr W76).wr W81).wr W86).wr W91).wr W96).wr W101)
      refine own_cv X101 hx hZ hown (notFace_of_selects (args := #[]) (mvT hZ (hw _ (own_m 48 rfl)))) (hw _ (own_m 45 rfl)) (hw _ (own_m 46 rfl)) (hw _ (own_m 48 rfl)) (hw _ (own_m 47 rfl)) (hw _ (own_m 3 rfl)) (hw _ (own_m 49 rfl)) (by decide) f165 (rm := { frames := 0, cells := 0, slots := 0, locals := 0 }) (rm_pr2 l Z a0 hw [] r_DECIMAL r_FLOAT r_DOUBLE t jj h101 n0 Z164 f161 f162 f163 H_DECIMAL H_FLOAT H_DOUBLE) (by decide) (W := 0) (by decide) (by decide) (by decide) e101 (by rw [hml]; rfl) (argsL := [(.ref t)]) (lenOf own_pd0 rfl) (rest := []) rfl rfl (Nat.le_of_eq rfl) (hb hby at_205) ?_
      intro _ T159 L159 X159 hQ159
      obtain ⟨rfl, N159q, e159⟩ := hQ159
      have N159 := Fr.app N101 N159q
      show own_Go p e below _ (T159.setTop (mkF m 208 #[.val (.int x0), .val (.int x1), .val (.ref b1), .val (.int (2 : Int32)), .val (.int jj), .val (.int (0 : Int32))] [(.int (own_p2 jj))]))
      refine own_go (fun _ hr => XS.iload X159.here hx rfl (hb hby at_208) rfl hr) ?_
      show own_Go p e below _ (T159.setTop (mkF m 210 #[.val (.int x0), .val (.int x1), .val (.ref b1), .val (.int (2 : Int32)), .val (.int jj), .val (.int (0 : Int32))] [(.int (0 : Int32)), (.int (own_p2 jj))]))
      have c166 : (own_p2 jj) = (0 : Int32) := by
                        have q := hj20
                        have p0 := c149
                        have p1 := c158
                        clear hj20 ht Ft hjb
                        simp only [Int32.lt_iff_toInt_lt, ← Int32.toInt_inj, Int32.reduceToInt] at p0 p1
                        rcases q with q | q | q | q | q | q | q | q | q | q | q | q | q | q | q | q | q | q | q | q <;> subst q <;> first | decide | (exfalso; revert p0 p1; decide)
      refine own_go (fun _ hr => XS.icmpNo X159.here hx rfl (hb hby at_210) rfl (teq c166).2 hr) ?_
      show own_Go p e below _ (T159.setTop (mkF m 213 #[.val (.int x0), .val (.int x1), .val (.ref b1), .val (.int (2 : Int32)), .val (.int jj), .val (.int (0 : Int32))] []))
      refine own_go (fun _ hr => XS.iconst X159.here hx rfl (hb hby at_213) (XS.goto X159.here hx rfl (pc0 := 214) (pc' := 218) rfl (hb hby at_214) (by decide) (by decide) hr)) ?_
      show own_Go p e below _ (T159.setTop (mkF m 218 #[.val (.int x0), .val (.int x1), .val (.ref b1), .val (.int (2 : Int32)), .val (.int jj), .val (.int (0 : Int32))] [(.int (1 : Int32))]))
      exact own_retN X159 hx hlk Bd.returns (t := .boolean) (by simp) (hb hby at_218) (by decide) (by decide) ⟨rfl, N159⟩
    refine own_go (fun _ hr => XS.icmpYes X101.here hx rfl (pc0 := 171) (pc' := 191) rfl (hb hby at_171) rfl (flt c158).2.2.2 (by decide) (by decide) hr) ?_
    show own_Go p e below _ (T101.setTop (mkF m 191 #[.val (.int x0), .val (.int x1), .val (.ref b1), .val (.int (2 : Int32)), .val (.int jj), .unset] []))
    refine own_go (fun _ hr => XS.iconst X101.here hx rfl (hb hby at_191) (XS.goto X101.here hx rfl (pc0 := 192) (pc' := 196) rfl (hb hby at_192) (by decide) (by decide) (XS.istore X101.here hx rfl (hb hby at_196) rfl (l' := #[.val (.int x0), .val (.int x1), .val (.ref b1), .val (.int (2 : Int32)), .val (.int jj), .val (.int (1 : Int32))]) rfl (XS.aloadN X101.here hx rfl (hb hby at_198) rfl rfl (XS.iloadN X101.here hx rfl (hb hby at_199) rfl (own_aaload X101 hx hZ e101 f101 (2 : Int32) (.ref r_DECIMAL) ⟨by decide, by decide⟩ rfl rfl rfl rfl (hb hby at_200) (XS.aloadN X101.here hx rfl (hb hby at_201) rfl rfl hr))))))) ?_
    show own_Go p e below _ (T101.setTop (mkF m 202 #[.val (.int x0), .val (.int x1), .val (.ref b1), .val (.int (2 : Int32)), .val (.int jj), .val (.int (1 : Int32))] [(.ref b1), (.ref r_DECIMAL)]))
    obtain ⟨t, ht, Ft, hjb⟩ : ∃ t, ([(.ref r_DOUBLE), (.ref r_FLOAT), (.ref r_DECIMAL), (.ref r_INTEGER), (.ref r_STRING), (.ref r_ANY_URI), (.ref r_UNTYPED_ATOMIC), (.ref r_BOOLEAN), (.ref r_DATE_TIME), (.ref r_DATE), (.ref r_TIME), (.ref r_YEAR_MONTH_DURATION), (.ref r_DAY_TIME_DURATION), (.ref r_DURATION), (.ref r_G_YEAR_MONTH), (.ref r_G_YEAR), (.ref r_G_MONTH_DAY), (.ref r_G_DAY), (.ref r_G_MONTH), (.ref r_QNAME)] : List Value).getD jj.toNatClampNeg .null = .ref t ∧ Fld Z h0 t "java/lang/Enum" "ordinal" "I" (.int jj) ∧ (¬ jj < 0 ∧ jj < 20) := by
      rcases hj20 with q | q | q | q | q | q | q | q | q | q | q | q | q | q | q | q | q | q | q | q
      · subst q; exact ⟨r_DOUBLE, rfl, F_DOUBLE_ordinal, by decide, by decide⟩
      · subst q; exact ⟨r_FLOAT, rfl, F_FLOAT_ordinal, by decide, by decide⟩
      · subst q; exact ⟨r_DECIMAL, rfl, F_DECIMAL_ordinal, by decide, by decide⟩
      · subst q; exact ⟨r_INTEGER, rfl, F_INTEGER_ordinal, by decide, by decide⟩
      · subst q; exact ⟨r_STRING, rfl, F_STRING_ordinal, by decide, by decide⟩
      · subst q; exact ⟨r_ANY_URI, rfl, F_ANY_URI_ordinal, by decide, by decide⟩
      · subst q; exact ⟨r_UNTYPED_ATOMIC, rfl, F_UNTYPED_ATOMIC_ordinal, by decide, by decide⟩
      · subst q; exact ⟨r_BOOLEAN, rfl, F_BOOLEAN_ordinal, by decide, by decide⟩
      · subst q; exact ⟨r_DATE_TIME, rfl, F_DATE_TIME_ordinal, by decide, by decide⟩
      · subst q; exact ⟨r_DATE, rfl, F_DATE_ordinal, by decide, by decide⟩
      · subst q; exact ⟨r_TIME, rfl, F_TIME_ordinal, by decide, by decide⟩
      · subst q; exact ⟨r_YEAR_MONTH_DURATION, rfl, F_YEAR_MONTH_DURATION_ordinal, by decide, by decide⟩
      · subst q; exact ⟨r_DAY_TIME_DURATION, rfl, F_DAY_TIME_DURATION_ordinal, by decide, by decide⟩
      · subst q; exact ⟨r_DURATION, rfl, F_DURATION_ordinal, by decide, by decide⟩
      · subst q; exact ⟨r_G_YEAR_MONTH, rfl, F_G_YEAR_MONTH_ordinal, by decide, by decide⟩
      · subst q; exact ⟨r_G_YEAR, rfl, F_G_YEAR_ordinal, by decide, by decide⟩
      · subst q; exact ⟨r_G_MONTH_DAY, rfl, F_G_MONTH_DAY_ordinal, by decide, by decide⟩
      · subst q; exact ⟨r_G_DAY, rfl, F_G_DAY_ordinal, by decide, by decide⟩
      · subst q; exact ⟨r_G_MONTH, rfl, F_G_MONTH_ordinal, by decide, by decide⟩
      · subst q; exact ⟨r_QNAME, rfl, F_QNAME_ordinal, by decide, by decide⟩
    have H_DECIMAL : r_DECIMAL = t ↔ jj = (2 : Int32) := ⟨fun q => Value.int.inj (own_fld_eq Ft (q ▸ F_DECIMAL_ordinal)), fun q => by subst q; exact Value.ref.inj ht⟩
    have H_FLOAT : r_FLOAT = t ↔ jj = (1 : Int32) := ⟨fun q => Value.int.inj (own_fld_eq Ft (q ▸ F_FLOAT_ordinal)), fun q => by subst q; exact Value.ref.inj ht⟩
    have H_DOUBLE : r_DOUBLE = t ↔ jj = (0 : Int32) := ⟨fun q => Value.int.inj (own_fld_eq Ft (q ▸ F_DOUBLE_ordinal)), fun q => by subst q; exact Value.ref.inj ht⟩
    refine own_go (fun _ hr => XS.iload X101.here hx rfl (hb hby at_202) rfl (own_aaload X101 hx hZ e101 f101 jj (.ref t) hjb ht rfl rfl rfl (hb hby at_204) hr)) ?_
    show own_Go p e below _ (T101.setTop (mkF m 205 #[.val (.int x0), .val (.int x1), .val (.ref b1), .val (.int (2 : Int32)), .val (.int jj), .val (.int (1 : Int32))] [(.ref t), (.ref r_DECIMAL)]))
    have K168 := (K98.wr W101 (Or.inr sz3))
    have f169 := (F_DECIMAL_promotion.keep K168 nin0)
    have f170 := (F_FLOAT_promotion.keep K168 nin0)
    have f171 := (F_DOUBLE_promotion.keep K168 nin0)
    have Z172 := (Nat.le_trans (Nat.le_trans (Nat.le_trans (Nat.le_trans (Nat.le_trans (Nat.le_trans (Nat.le_trans (Nat.le_trans (Nat.le_trans (Nat.le_trans (Nat.le_trans (Nat.le_trans (Nat.le_trans (Nat.le_trans (Nat.le_trans (Nat.le_trans (Nat.le_trans (Nat.le_trans (Nat.le_trans (Nat.le_trans (Nat.le_trans Z0 E1.1) (Nat.le_of_eq W7.size.symm)) (Nat.le_of_eq W11.size.symm)) (Nat.le_of_eq W16.size.symm)) (Nat.le_of_eq W21.size.symm)) (Nat.le_of_eq W26.size.symm)) (Nat.le_of_eq W31.size.symm)) (Nat.le_of_eq W36.size.symm)) (Nat.le_of_eq W41.size.symm)) (Nat.le_of_eq W46.size.symm)) (Nat.le_of_eq W51.size.symm)) (Nat.le_of_eq W56.size.symm)) (Nat.le_of_eq W61.size.symm)) (Nat.le_of_eq W66.size.symm)) (Nat.le_of_eq W71.size.symm)) (Nat.le_of_eq W76.size.symm)) (Nat.le_of_eq W81.size.symm)) (Nat.le_of_eq W86.size.symm)) (Nat.le_of_eq W91.size.symm)) (Nat.le_of_eq W96.size.symm)) (Nat.le_of_eq W101.size.symm))
    have f173 := ((((((((((((((((((f17.wr W16).wr W21).wr W26).wr W31).wr W36).wr W41).wr W46).wr W51).wr W56).wr W61).wr W66).wr W71).wr W76).wr W81).wr W86).wr W91).wr W96).wr W101)
    refine own_cv X101 hx hZ hown (notFace_of_selects (args := #[]) (mvT hZ (hw _ (own_m 48 rfl)))) (hw _ (own_m 45 rfl)) (hw _ (own_m 46 rfl)) (hw _ (own_m 48 rfl)) (hw _ (own_m 47 rfl)) (hw _ (own_m 3 rfl)) (hw _ (own_m 49 rfl)) (by decide) f173 (rm := { frames := 0, cells := 0, slots := 0, locals := 0 }) (rm_pr2 l Z a0 hw [] r_DECIMAL r_FLOAT r_DOUBLE t jj h101 n0 Z172 f169 f170 f171 H_DECIMAL H_FLOAT H_DOUBLE) (by decide) (W := 0) (by decide) (by decide) (by decide) e101 (by rw [hml]; rfl) (argsL := [(.ref t)]) (lenOf own_pd0 rfl) (rest := []) rfl rfl (Nat.le_of_eq rfl) (hb hby at_205) ?_
    intro _ T167 L167 X167 hQ167
    obtain ⟨rfl, N167q, e167⟩ := hQ167
    have N167 := Fr.app N101 N167q
    show own_Go p e below _ (T167.setTop (mkF m 208 #[.val (.int x0), .val (.int x1), .val (.ref b1), .val (.int (2 : Int32)), .val (.int jj), .val (.int (1 : Int32))] [(.int (own_p2 jj))]))
    refine own_go (fun _ hr => XS.iload X167.here hx rfl (hb hby at_208) rfl hr) ?_
    show own_Go p e below _ (T167.setTop (mkF m 210 #[.val (.int x0), .val (.int x1), .val (.ref b1), .val (.int (2 : Int32)), .val (.int jj), .val (.int (1 : Int32))] [(.int (1 : Int32)), (.int (own_p2 jj))]))
    have c174 : (own_p2 jj) = (1 : Int32) := by
                        have q := hj20
                        have p0 := c149
                        have p1 := c158
                        clear hj20 ht Ft hjb
                        simp only [Int32.lt_iff_toInt_lt, ← Int32.toInt_inj, Int32.reduceToInt] at p0 p1
                        rcases q with q | q | q | q | q | q | q | q | q | q | q | q | q | q | q | q | q | q | q | q <;> subst q <;> first | decide | (exfalso; revert p0 p1; decide)
    refine own_go (fun _ hr => XS.icmpNo X167.here hx rfl (hb hby at_210) rfl (teq c174).2 hr) ?_
    show own_Go p e below _ (T167.setTop (mkF m 213 #[.val (.int x0), .val (.int x1), .val (.ref b1), .val (.int (2 : Int32)), .val (.int jj), .val (.int (1 : Int32))] []))
    refine own_go (fun _ hr => XS.iconst X167.here hx rfl (hb hby at_213) (XS.goto X167.here hx rfl (pc0 := 214) (pc' := 218) rfl (hb hby at_214) (by decide) (by decide) hr)) ?_
    show own_Go p e below _ (T167.setTop (mkF m 218 #[.val (.int x0), .val (.int x1), .val (.ref b1), .val (.int (2 : Int32)), .val (.int jj), .val (.int (1 : Int32))] [(.int (1 : Int32))]))
    exact own_retN X167 hx hlk Bd.returns (t := .boolean) (by simp) (hb hby at_218) (by decide) (by decide) ⟨rfl, N167⟩
  · rw [hk105]
    show own_Go p e below _ (T101.setTop (mkF m 157 #[.val (.int x0), .val (.int x1), .val (.ref b1), .val (.int (3 : Int32)), .val (.int jj), .unset] []))
    refine own_go (fun _ hr => XS.iloadN X101.here hx rfl (hb hby at_157) rfl (XS.iload X101.here hx rfl (hb hby at_158) rfl hr)) ?_
    show own_Go p e below _ (T101.setTop (mkF m 160 #[.val (.int x0), .val (.int x1), .val (.ref b1), .val (.int (3 : Int32)), .val (.int jj), .unset] [(.int jj), (.int (3 : Int32))]))
    by_cases c175 : (3 : Int32) = jj
    · refine own_go (fun _ hr => XS.icmpYes X101.here hx rfl (pc0 := 160) (pc' := 191) rfl (hb hby at_160) rfl (teq c175).1 (by decide) (by decide) hr) ?_
      show own_Go p e below _ (T101.setTop (mkF m 191 #[.val (.int x0), .val (.int x1), .val (.ref b1), .val (.int (3 : Int32)), .val (.int jj), .unset] []))
      refine own_go (fun _ hr => XS.iconst X101.here hx rfl (hb hby at_191) (XS.goto X101.here hx rfl (pc0 := 192) (pc' := 196) rfl (hb hby at_192) (by decide) (by decide) (XS.istore X101.here hx rfl (hb hby at_196) rfl (l' := #[.val (.int x0), .val (.int x1), .val (.ref b1), .val (.int (3 : Int32)), .val (.int jj), .val (.int (1 : Int32))]) rfl (XS.aloadN X101.here hx rfl (hb hby at_198) rfl rfl (XS.iloadN X101.here hx rfl (hb hby at_199) rfl (own_aaload X101 hx hZ e101 f101 (3 : Int32) (.ref r_INTEGER) ⟨by decide, by decide⟩ rfl rfl rfl rfl (hb hby at_200) (XS.aloadN X101.here hx rfl (hb hby at_201) rfl rfl hr))))))) ?_
      show own_Go p e below _ (T101.setTop (mkF m 202 #[.val (.int x0), .val (.int x1), .val (.ref b1), .val (.int (3 : Int32)), .val (.int jj), .val (.int (1 : Int32))] [(.ref b1), (.ref r_INTEGER)]))
      obtain ⟨t, ht, Ft, hjb⟩ : ∃ t, ([(.ref r_DOUBLE), (.ref r_FLOAT), (.ref r_DECIMAL), (.ref r_INTEGER), (.ref r_STRING), (.ref r_ANY_URI), (.ref r_UNTYPED_ATOMIC), (.ref r_BOOLEAN), (.ref r_DATE_TIME), (.ref r_DATE), (.ref r_TIME), (.ref r_YEAR_MONTH_DURATION), (.ref r_DAY_TIME_DURATION), (.ref r_DURATION), (.ref r_G_YEAR_MONTH), (.ref r_G_YEAR), (.ref r_G_MONTH_DAY), (.ref r_G_DAY), (.ref r_G_MONTH), (.ref r_QNAME)] : List Value).getD jj.toNatClampNeg .null = .ref t ∧ Fld Z h0 t "java/lang/Enum" "ordinal" "I" (.int jj) ∧ (¬ jj < 0 ∧ jj < 20) := by
        rcases hj20 with q | q | q | q | q | q | q | q | q | q | q | q | q | q | q | q | q | q | q | q
        · subst q; exact ⟨r_DOUBLE, rfl, F_DOUBLE_ordinal, by decide, by decide⟩
        · subst q; exact ⟨r_FLOAT, rfl, F_FLOAT_ordinal, by decide, by decide⟩
        · subst q; exact ⟨r_DECIMAL, rfl, F_DECIMAL_ordinal, by decide, by decide⟩
        · subst q; exact ⟨r_INTEGER, rfl, F_INTEGER_ordinal, by decide, by decide⟩
        · subst q; exact ⟨r_STRING, rfl, F_STRING_ordinal, by decide, by decide⟩
        · subst q; exact ⟨r_ANY_URI, rfl, F_ANY_URI_ordinal, by decide, by decide⟩
        · subst q; exact ⟨r_UNTYPED_ATOMIC, rfl, F_UNTYPED_ATOMIC_ordinal, by decide, by decide⟩
        · subst q; exact ⟨r_BOOLEAN, rfl, F_BOOLEAN_ordinal, by decide, by decide⟩
        · subst q; exact ⟨r_DATE_TIME, rfl, F_DATE_TIME_ordinal, by decide, by decide⟩
        · subst q; exact ⟨r_DATE, rfl, F_DATE_ordinal, by decide, by decide⟩
        · subst q; exact ⟨r_TIME, rfl, F_TIME_ordinal, by decide, by decide⟩
        · subst q; exact ⟨r_YEAR_MONTH_DURATION, rfl, F_YEAR_MONTH_DURATION_ordinal, by decide, by decide⟩
        · subst q; exact ⟨r_DAY_TIME_DURATION, rfl, F_DAY_TIME_DURATION_ordinal, by decide, by decide⟩
        · subst q; exact ⟨r_DURATION, rfl, F_DURATION_ordinal, by decide, by decide⟩
        · subst q; exact ⟨r_G_YEAR_MONTH, rfl, F_G_YEAR_MONTH_ordinal, by decide, by decide⟩
        · subst q; exact ⟨r_G_YEAR, rfl, F_G_YEAR_ordinal, by decide, by decide⟩
        · subst q; exact ⟨r_G_MONTH_DAY, rfl, F_G_MONTH_DAY_ordinal, by decide, by decide⟩
        · subst q; exact ⟨r_G_DAY, rfl, F_G_DAY_ordinal, by decide, by decide⟩
        · subst q; exact ⟨r_G_MONTH, rfl, F_G_MONTH_ordinal, by decide, by decide⟩
        · subst q; exact ⟨r_QNAME, rfl, F_QNAME_ordinal, by decide, by decide⟩
      have H_INTEGER : r_INTEGER = t ↔ jj = (3 : Int32) := ⟨fun q => Value.int.inj (own_fld_eq Ft (q ▸ F_INTEGER_ordinal)), fun q => by subst q; exact Value.ref.inj ht⟩
      have H_DECIMAL : r_DECIMAL = t ↔ jj = (2 : Int32) := ⟨fun q => Value.int.inj (own_fld_eq Ft (q ▸ F_DECIMAL_ordinal)), fun q => by subst q; exact Value.ref.inj ht⟩
      have H_FLOAT : r_FLOAT = t ↔ jj = (1 : Int32) := ⟨fun q => Value.int.inj (own_fld_eq Ft (q ▸ F_FLOAT_ordinal)), fun q => by subst q; exact Value.ref.inj ht⟩
      have H_DOUBLE : r_DOUBLE = t ↔ jj = (0 : Int32) := ⟨fun q => Value.int.inj (own_fld_eq Ft (q ▸ F_DOUBLE_ordinal)), fun q => by subst q; exact Value.ref.inj ht⟩
      refine own_go (fun _ hr => XS.iload X101.here hx rfl (hb hby at_202) rfl (own_aaload X101 hx hZ e101 f101 jj (.ref t) hjb ht rfl rfl rfl (hb hby at_204) hr)) ?_
      show own_Go p e below _ (T101.setTop (mkF m 205 #[.val (.int x0), .val (.int x1), .val (.ref b1), .val (.int (3 : Int32)), .val (.int jj), .val (.int (1 : Int32))] [(.ref t), (.ref r_INTEGER)]))
      have K177 := (K98.wr W101 (Or.inr sz3))
      have f178 := (F_INTEGER_promotion.keep K177 nin0)
      have f179 := (F_DECIMAL_promotion.keep K177 nin0)
      have f180 := (F_FLOAT_promotion.keep K177 nin0)
      have f181 := (F_DOUBLE_promotion.keep K177 nin0)
      have Z182 := (Nat.le_trans (Nat.le_trans (Nat.le_trans (Nat.le_trans (Nat.le_trans (Nat.le_trans (Nat.le_trans (Nat.le_trans (Nat.le_trans (Nat.le_trans (Nat.le_trans (Nat.le_trans (Nat.le_trans (Nat.le_trans (Nat.le_trans (Nat.le_trans (Nat.le_trans (Nat.le_trans (Nat.le_trans (Nat.le_trans (Nat.le_trans Z0 E1.1) (Nat.le_of_eq W7.size.symm)) (Nat.le_of_eq W11.size.symm)) (Nat.le_of_eq W16.size.symm)) (Nat.le_of_eq W21.size.symm)) (Nat.le_of_eq W26.size.symm)) (Nat.le_of_eq W31.size.symm)) (Nat.le_of_eq W36.size.symm)) (Nat.le_of_eq W41.size.symm)) (Nat.le_of_eq W46.size.symm)) (Nat.le_of_eq W51.size.symm)) (Nat.le_of_eq W56.size.symm)) (Nat.le_of_eq W61.size.symm)) (Nat.le_of_eq W66.size.symm)) (Nat.le_of_eq W71.size.symm)) (Nat.le_of_eq W76.size.symm)) (Nat.le_of_eq W81.size.symm)) (Nat.le_of_eq W86.size.symm)) (Nat.le_of_eq W91.size.symm)) (Nat.le_of_eq W96.size.symm)) (Nat.le_of_eq W101.size.symm))
      have f183 := (((((((((((((((((f22.wr W21).wr W26).wr W31).wr W36).wr W41).wr W46).wr W51).wr W56).wr W61).wr W66).wr W71).wr W76).wr W81).wr W86).wr W91).wr W96).wr W101)
      refine own_cv X101 hx hZ hown (notFace_of_selects (args := #[]) (mvT hZ (hw _ (own_m 48 rfl)))) (hw _ (own_m 45 rfl)) (hw _ (own_m 46 rfl)) (hw _ (own_m 48 rfl)) (hw _ (own_m 47 rfl)) (hw _ (own_m 3 rfl)) (hw _ (own_m 49 rfl)) (by decide) f183 (rm := { frames := 0, cells := 0, slots := 0, locals := 0 }) (rm_pr3 l Z a0 hw [] r_INTEGER r_DECIMAL r_FLOAT r_DOUBLE t jj h101 n0 Z182 f178 f179 f180 f181 H_INTEGER H_DECIMAL H_FLOAT H_DOUBLE) (by decide) (W := 0) (by decide) (by decide) (by decide) e101 (by rw [hml]; rfl) (argsL := [(.ref t)]) (lenOf own_pd0 rfl) (rest := []) rfl rfl (Nat.le_of_eq rfl) (hb hby at_205) ?_
      intro _ T176 L176 X176 hQ176
      obtain ⟨rfl, N176q, e176⟩ := hQ176
      have N176 := Fr.app N101 N176q
      show own_Go p e below _ (T176.setTop (mkF m 208 #[.val (.int x0), .val (.int x1), .val (.ref b1), .val (.int (3 : Int32)), .val (.int jj), .val (.int (1 : Int32))] [(.int (own_p3 jj))]))
      refine own_go (fun _ hr => XS.iload X176.here hx rfl (hb hby at_208) rfl hr) ?_
      show own_Go p e below _ (T176.setTop (mkF m 210 #[.val (.int x0), .val (.int x1), .val (.ref b1), .val (.int (3 : Int32)), .val (.int jj), .val (.int (1 : Int32))] [(.int (1 : Int32)), (.int (own_p3 jj))]))
      have c184 : (own_p3 jj) = (1 : Int32) := by
                        have q := hj20
                        have p0 := c175
                        clear hj20 ht Ft hjb
                        simp only [Int32.lt_iff_toInt_lt, ← Int32.toInt_inj, Int32.reduceToInt] at p0
                        rcases q with q | q | q | q | q | q | q | q | q | q | q | q | q | q | q | q | q | q | q | q <;> subst q <;> first | decide | (exfalso; revert p0; decide)
      refine own_go (fun _ hr => XS.icmpNo X176.here hx rfl (hb hby at_210) rfl (teq c184).2 hr) ?_
      show own_Go p e below _ (T176.setTop (mkF m 213 #[.val (.int x0), .val (.int x1), .val (.ref b1), .val (.int (3 : Int32)), .val (.int jj), .val (.int (1 : Int32))] []))
      refine own_go (fun _ hr => XS.iconst X176.here hx rfl (hb hby at_213) (XS.goto X176.here hx rfl (pc0 := 214) (pc' := 218) rfl (hb hby at_214) (by decide) (by decide) hr)) ?_
      show own_Go p e below _ (T176.setTop (mkF m 218 #[.val (.int x0), .val (.int x1), .val (.ref b1), .val (.int (3 : Int32)), .val (.int jj), .val (.int (1 : Int32))] [(.int (1 : Int32))]))
      exact own_retN X176 hx hlk Bd.returns (t := .boolean) (by simp) (hb hby at_218) (by decide) (by decide) ⟨rfl, N176⟩
    refine own_go (fun _ hr => XS.icmpNo X101.here hx rfl (hb hby at_160) rfl (feq c175).1 hr) ?_
    show own_Go p e below _ (T101.setTop (mkF m 163 #[.val (.int x0), .val (.int x1), .val (.ref b1), .val (.int (3 : Int32)), .val (.int jj), .unset] []))
    refine own_go (fun _ hr => XS.iloadN X101.here hx rfl (hb hby at_163) rfl (XS.iconst X101.here hx rfl (hb hby at_164) (XS.icmpNo X101.here hx rfl (hb hby at_165) rfl (flt (by decide)).2.2.1 (XS.iload X101.here hx rfl (hb hby at_168) rfl (XS.iloadN X101.here hx rfl (hb hby at_170) rfl hr))))) ?_
    show own_Go p e below _ (T101.setTop (mkF m 171 #[.val (.int x0), .val (.int x1), .val (.ref b1), .val (.int (3 : Int32)), .val (.int jj), .unset] [(.int (3 : Int32)), (.int jj)]))
    by_cases c185 : (3 : Int32) < jj
    · refine own_go (fun _ hr => XS.icmpNo X101.here hx rfl (hb hby at_171) rfl (tlt c185).2.2.2 hr) ?_
      show own_Go p e below _ (T101.setTop (mkF m 174 #[.val (.int x0), .val (.int x1), .val (.ref b1), .val (.int (3 : Int32)), .val (.int jj), .unset] []))
      refine own_go (fun _ hr => XS.iloadN X101.here hx rfl (hb hby at_174) rfl (XS.iconst X101.here hx rfl (hb hby at_175) (XS.icmpNo X101.here hx rfl (hb hby at_176) rfl (feq (by decide)).1 (XS.iloadN X101.here hx rfl (hb hby at_179) rfl (XS.bipush X101.here hx rfl (hb hby at_180) (XS.icmpYes X101.here hx rfl (pc0 := 182) (pc' := 195) rfl (hb hby at_182) rfl (feq (by decide)).2 (by decide) (by decide) (XS.iconst X101.here hx rfl (hb hby at_195) (XS.istore X101.here hx rfl (hb hby at_196) rfl (l' := #[.val (.int x0), .val (.int x1), .val (.ref b1), .val (.int (3 : Int32)), .val (.int jj), .val (.int (0 : Int32))]) rfl (XS.aloadN X101.here hx rfl (hb hby at_198) rfl rfl (XS.iloadN X101.here hx rfl (hb hby at_199) rfl hr)))))))))) ?_
      show own_Go p e below _ (T101.setTop (mkF m 200 #[.val (.int x0), .val (.int x1), .val (.ref b1), .val (.int (3 : Int32)), .val (.int jj), .val (.int (0 : Int32))] [(.int (3 : Int32)), (.ref b1)]))
      refine own_go (fun _ hr => own_aaload X101 hx hZ e101 f101 (3 : Int32) (.ref r_INTEGER) ⟨by decide, by decide⟩ rfl rfl rfl rfl (hb hby at_200) (XS.aloadN X101.here hx rfl (hb hby at_201) rfl rfl hr)) ?_
      show own_Go p e below _ (T101.setTop (mkF m 202 #[.val (.int x0), .val (.int x1), .val (.ref b1), .val (.int (3 : Int32)), .val (.int jj), .val (.int (0 : Int32))] [(.ref b1), (.ref r_INTEGER)]))
      obtain ⟨t, ht, Ft, hjb⟩ : ∃ t, ([(.ref r_DOUBLE), (.ref r_FLOAT), (.ref r_DECIMAL), (.ref r_INTEGER), (.ref r_STRING), (.ref r_ANY_URI), (.ref r_UNTYPED_ATOMIC), (.ref r_BOOLEAN), (.ref r_DATE_TIME), (.ref r_DATE), (.ref r_TIME), (.ref r_YEAR_MONTH_DURATION), (.ref r_DAY_TIME_DURATION), (.ref r_DURATION), (.ref r_G_YEAR_MONTH), (.ref r_G_YEAR), (.ref r_G_MONTH_DAY), (.ref r_G_DAY), (.ref r_G_MONTH), (.ref r_QNAME)] : List Value).getD jj.toNatClampNeg .null = .ref t ∧ Fld Z h0 t "java/lang/Enum" "ordinal" "I" (.int jj) ∧ (¬ jj < 0 ∧ jj < 20) := by
        rcases hj20 with q | q | q | q | q | q | q | q | q | q | q | q | q | q | q | q | q | q | q | q
        · subst q; exact ⟨r_DOUBLE, rfl, F_DOUBLE_ordinal, by decide, by decide⟩
        · subst q; exact ⟨r_FLOAT, rfl, F_FLOAT_ordinal, by decide, by decide⟩
        · subst q; exact ⟨r_DECIMAL, rfl, F_DECIMAL_ordinal, by decide, by decide⟩
        · subst q; exact ⟨r_INTEGER, rfl, F_INTEGER_ordinal, by decide, by decide⟩
        · subst q; exact ⟨r_STRING, rfl, F_STRING_ordinal, by decide, by decide⟩
        · subst q; exact ⟨r_ANY_URI, rfl, F_ANY_URI_ordinal, by decide, by decide⟩
        · subst q; exact ⟨r_UNTYPED_ATOMIC, rfl, F_UNTYPED_ATOMIC_ordinal, by decide, by decide⟩
        · subst q; exact ⟨r_BOOLEAN, rfl, F_BOOLEAN_ordinal, by decide, by decide⟩
        · subst q; exact ⟨r_DATE_TIME, rfl, F_DATE_TIME_ordinal, by decide, by decide⟩
        · subst q; exact ⟨r_DATE, rfl, F_DATE_ordinal, by decide, by decide⟩
        · subst q; exact ⟨r_TIME, rfl, F_TIME_ordinal, by decide, by decide⟩
        · subst q; exact ⟨r_YEAR_MONTH_DURATION, rfl, F_YEAR_MONTH_DURATION_ordinal, by decide, by decide⟩
        · subst q; exact ⟨r_DAY_TIME_DURATION, rfl, F_DAY_TIME_DURATION_ordinal, by decide, by decide⟩
        · subst q; exact ⟨r_DURATION, rfl, F_DURATION_ordinal, by decide, by decide⟩
        · subst q; exact ⟨r_G_YEAR_MONTH, rfl, F_G_YEAR_MONTH_ordinal, by decide, by decide⟩
        · subst q; exact ⟨r_G_YEAR, rfl, F_G_YEAR_ordinal, by decide, by decide⟩
        · subst q; exact ⟨r_G_MONTH_DAY, rfl, F_G_MONTH_DAY_ordinal, by decide, by decide⟩
        · subst q; exact ⟨r_G_DAY, rfl, F_G_DAY_ordinal, by decide, by decide⟩
        · subst q; exact ⟨r_G_MONTH, rfl, F_G_MONTH_ordinal, by decide, by decide⟩
        · subst q; exact ⟨r_QNAME, rfl, F_QNAME_ordinal, by decide, by decide⟩
      have H_INTEGER : r_INTEGER = t ↔ jj = (3 : Int32) := ⟨fun q => Value.int.inj (own_fld_eq Ft (q ▸ F_INTEGER_ordinal)), fun q => by subst q; exact Value.ref.inj ht⟩
      have H_DECIMAL : r_DECIMAL = t ↔ jj = (2 : Int32) := ⟨fun q => Value.int.inj (own_fld_eq Ft (q ▸ F_DECIMAL_ordinal)), fun q => by subst q; exact Value.ref.inj ht⟩
      have H_FLOAT : r_FLOAT = t ↔ jj = (1 : Int32) := ⟨fun q => Value.int.inj (own_fld_eq Ft (q ▸ F_FLOAT_ordinal)), fun q => by subst q; exact Value.ref.inj ht⟩
      have H_DOUBLE : r_DOUBLE = t ↔ jj = (0 : Int32) := ⟨fun q => Value.int.inj (own_fld_eq Ft (q ▸ F_DOUBLE_ordinal)), fun q => by subst q; exact Value.ref.inj ht⟩
      refine own_go (fun _ hr => XS.iload X101.here hx rfl (hb hby at_202) rfl (own_aaload X101 hx hZ e101 f101 jj (.ref t) hjb ht rfl rfl rfl (hb hby at_204) hr)) ?_
      show own_Go p e below _ (T101.setTop (mkF m 205 #[.val (.int x0), .val (.int x1), .val (.ref b1), .val (.int (3 : Int32)), .val (.int jj), .val (.int (0 : Int32))] [(.ref t), (.ref r_INTEGER)]))
      have K187 := (K98.wr W101 (Or.inr sz3))
      have f188 := (F_INTEGER_promotion.keep K187 nin0)
      have f189 := (F_DECIMAL_promotion.keep K187 nin0)
      have f190 := (F_FLOAT_promotion.keep K187 nin0)
      have f191 := (F_DOUBLE_promotion.keep K187 nin0)
      have Z192 := (Nat.le_trans (Nat.le_trans (Nat.le_trans (Nat.le_trans (Nat.le_trans (Nat.le_trans (Nat.le_trans (Nat.le_trans (Nat.le_trans (Nat.le_trans (Nat.le_trans (Nat.le_trans (Nat.le_trans (Nat.le_trans (Nat.le_trans (Nat.le_trans (Nat.le_trans (Nat.le_trans (Nat.le_trans (Nat.le_trans (Nat.le_trans Z0 E1.1) (Nat.le_of_eq W7.size.symm)) (Nat.le_of_eq W11.size.symm)) (Nat.le_of_eq W16.size.symm)) (Nat.le_of_eq W21.size.symm)) (Nat.le_of_eq W26.size.symm)) (Nat.le_of_eq W31.size.symm)) (Nat.le_of_eq W36.size.symm)) (Nat.le_of_eq W41.size.symm)) (Nat.le_of_eq W46.size.symm)) (Nat.le_of_eq W51.size.symm)) (Nat.le_of_eq W56.size.symm)) (Nat.le_of_eq W61.size.symm)) (Nat.le_of_eq W66.size.symm)) (Nat.le_of_eq W71.size.symm)) (Nat.le_of_eq W76.size.symm)) (Nat.le_of_eq W81.size.symm)) (Nat.le_of_eq W86.size.symm)) (Nat.le_of_eq W91.size.symm)) (Nat.le_of_eq W96.size.symm)) (Nat.le_of_eq W101.size.symm))
      have f193 := (((((((((((((((((f22.wr W21).wr W26).wr W31).wr W36).wr W41).wr W46).wr W51).wr W56).wr W61).wr W66).wr W71).wr W76).wr W81).wr W86).wr W91).wr W96).wr W101)
      refine own_cv X101 hx hZ hown (notFace_of_selects (args := #[]) (mvT hZ (hw _ (own_m 48 rfl)))) (hw _ (own_m 45 rfl)) (hw _ (own_m 46 rfl)) (hw _ (own_m 48 rfl)) (hw _ (own_m 47 rfl)) (hw _ (own_m 3 rfl)) (hw _ (own_m 49 rfl)) (by decide) f193 (rm := { frames := 0, cells := 0, slots := 0, locals := 0 }) (rm_pr3 l Z a0 hw [] r_INTEGER r_DECIMAL r_FLOAT r_DOUBLE t jj h101 n0 Z192 f188 f189 f190 f191 H_INTEGER H_DECIMAL H_FLOAT H_DOUBLE) (by decide) (W := 0) (by decide) (by decide) (by decide) e101 (by rw [hml]; rfl) (argsL := [(.ref t)]) (lenOf own_pd0 rfl) (rest := []) rfl rfl (Nat.le_of_eq rfl) (hb hby at_205) ?_
      intro _ T186 L186 X186 hQ186
      obtain ⟨rfl, N186q, e186⟩ := hQ186
      have N186 := Fr.app N101 N186q
      show own_Go p e below _ (T186.setTop (mkF m 208 #[.val (.int x0), .val (.int x1), .val (.ref b1), .val (.int (3 : Int32)), .val (.int jj), .val (.int (0 : Int32))] [(.int (own_p3 jj))]))
      refine own_go (fun _ hr => XS.iload X186.here hx rfl (hb hby at_208) rfl hr) ?_
      show own_Go p e below _ (T186.setTop (mkF m 210 #[.val (.int x0), .val (.int x1), .val (.ref b1), .val (.int (3 : Int32)), .val (.int jj), .val (.int (0 : Int32))] [(.int (0 : Int32)), (.int (own_p3 jj))]))
      have c194 : (own_p3 jj) = (0 : Int32) := by
                        have q := hj20
                        have p0 := c175
                        have p1 := c185
                        clear hj20 ht Ft hjb
                        simp only [Int32.lt_iff_toInt_lt, ← Int32.toInt_inj, Int32.reduceToInt] at p0 p1
                        rcases q with q | q | q | q | q | q | q | q | q | q | q | q | q | q | q | q | q | q | q | q <;> subst q <;> first | decide | (exfalso; revert p0 p1; decide)
      refine own_go (fun _ hr => XS.icmpNo X186.here hx rfl (hb hby at_210) rfl (teq c194).2 hr) ?_
      show own_Go p e below _ (T186.setTop (mkF m 213 #[.val (.int x0), .val (.int x1), .val (.ref b1), .val (.int (3 : Int32)), .val (.int jj), .val (.int (0 : Int32))] []))
      refine own_go (fun _ hr => XS.iconst X186.here hx rfl (hb hby at_213) (XS.goto X186.here hx rfl (pc0 := 214) (pc' := 218) rfl (hb hby at_214) (by decide) (by decide) hr)) ?_
      show own_Go p e below _ (T186.setTop (mkF m 218 #[.val (.int x0), .val (.int x1), .val (.ref b1), .val (.int (3 : Int32)), .val (.int jj), .val (.int (0 : Int32))] [(.int (1 : Int32))]))
      exact own_retN X186 hx hlk Bd.returns (t := .boolean) (by simp) (hb hby at_218) (by decide) (by decide) ⟨rfl, N186⟩
    refine own_go (fun _ hr => XS.icmpYes X101.here hx rfl (pc0 := 171) (pc' := 191) rfl (hb hby at_171) rfl (flt c185).2.2.2 (by decide) (by decide) hr) ?_
    show own_Go p e below _ (T101.setTop (mkF m 191 #[.val (.int x0), .val (.int x1), .val (.ref b1), .val (.int (3 : Int32)), .val (.int jj), .unset] []))
    refine own_go (fun _ hr => XS.iconst X101.here hx rfl (hb hby at_191) (XS.goto X101.here hx rfl (pc0 := 192) (pc' := 196) rfl (hb hby at_192) (by decide) (by decide) (XS.istore X101.here hx rfl (hb hby at_196) rfl (l' := #[.val (.int x0), .val (.int x1), .val (.ref b1), .val (.int (3 : Int32)), .val (.int jj), .val (.int (1 : Int32))]) rfl (XS.aloadN X101.here hx rfl (hb hby at_198) rfl rfl (XS.iloadN X101.here hx rfl (hb hby at_199) rfl (own_aaload X101 hx hZ e101 f101 (3 : Int32) (.ref r_INTEGER) ⟨by decide, by decide⟩ rfl rfl rfl rfl (hb hby at_200) (XS.aloadN X101.here hx rfl (hb hby at_201) rfl rfl hr))))))) ?_
    show own_Go p e below _ (T101.setTop (mkF m 202 #[.val (.int x0), .val (.int x1), .val (.ref b1), .val (.int (3 : Int32)), .val (.int jj), .val (.int (1 : Int32))] [(.ref b1), (.ref r_INTEGER)]))
    obtain ⟨t, ht, Ft, hjb⟩ : ∃ t, ([(.ref r_DOUBLE), (.ref r_FLOAT), (.ref r_DECIMAL), (.ref r_INTEGER), (.ref r_STRING), (.ref r_ANY_URI), (.ref r_UNTYPED_ATOMIC), (.ref r_BOOLEAN), (.ref r_DATE_TIME), (.ref r_DATE), (.ref r_TIME), (.ref r_YEAR_MONTH_DURATION), (.ref r_DAY_TIME_DURATION), (.ref r_DURATION), (.ref r_G_YEAR_MONTH), (.ref r_G_YEAR), (.ref r_G_MONTH_DAY), (.ref r_G_DAY), (.ref r_G_MONTH), (.ref r_QNAME)] : List Value).getD jj.toNatClampNeg .null = .ref t ∧ Fld Z h0 t "java/lang/Enum" "ordinal" "I" (.int jj) ∧ (¬ jj < 0 ∧ jj < 20) := by
      rcases hj20 with q | q | q | q | q | q | q | q | q | q | q | q | q | q | q | q | q | q | q | q
      · subst q; exact ⟨r_DOUBLE, rfl, F_DOUBLE_ordinal, by decide, by decide⟩
      · subst q; exact ⟨r_FLOAT, rfl, F_FLOAT_ordinal, by decide, by decide⟩
      · subst q; exact ⟨r_DECIMAL, rfl, F_DECIMAL_ordinal, by decide, by decide⟩
      · subst q; exact ⟨r_INTEGER, rfl, F_INTEGER_ordinal, by decide, by decide⟩
      · subst q; exact ⟨r_STRING, rfl, F_STRING_ordinal, by decide, by decide⟩
      · subst q; exact ⟨r_ANY_URI, rfl, F_ANY_URI_ordinal, by decide, by decide⟩
      · subst q; exact ⟨r_UNTYPED_ATOMIC, rfl, F_UNTYPED_ATOMIC_ordinal, by decide, by decide⟩
      · subst q; exact ⟨r_BOOLEAN, rfl, F_BOOLEAN_ordinal, by decide, by decide⟩
      · subst q; exact ⟨r_DATE_TIME, rfl, F_DATE_TIME_ordinal, by decide, by decide⟩
      · subst q; exact ⟨r_DATE, rfl, F_DATE_ordinal, by decide, by decide⟩
      · subst q; exact ⟨r_TIME, rfl, F_TIME_ordinal, by decide, by decide⟩
      · subst q; exact ⟨r_YEAR_MONTH_DURATION, rfl, F_YEAR_MONTH_DURATION_ordinal, by decide, by decide⟩
      · subst q; exact ⟨r_DAY_TIME_DURATION, rfl, F_DAY_TIME_DURATION_ordinal, by decide, by decide⟩
      · subst q; exact ⟨r_DURATION, rfl, F_DURATION_ordinal, by decide, by decide⟩
      · subst q; exact ⟨r_G_YEAR_MONTH, rfl, F_G_YEAR_MONTH_ordinal, by decide, by decide⟩
      · subst q; exact ⟨r_G_YEAR, rfl, F_G_YEAR_ordinal, by decide, by decide⟩
      · subst q; exact ⟨r_G_MONTH_DAY, rfl, F_G_MONTH_DAY_ordinal, by decide, by decide⟩
      · subst q; exact ⟨r_G_DAY, rfl, F_G_DAY_ordinal, by decide, by decide⟩
      · subst q; exact ⟨r_G_MONTH, rfl, F_G_MONTH_ordinal, by decide, by decide⟩
      · subst q; exact ⟨r_QNAME, rfl, F_QNAME_ordinal, by decide, by decide⟩
    have H_INTEGER : r_INTEGER = t ↔ jj = (3 : Int32) := ⟨fun q => Value.int.inj (own_fld_eq Ft (q ▸ F_INTEGER_ordinal)), fun q => by subst q; exact Value.ref.inj ht⟩
    have H_DECIMAL : r_DECIMAL = t ↔ jj = (2 : Int32) := ⟨fun q => Value.int.inj (own_fld_eq Ft (q ▸ F_DECIMAL_ordinal)), fun q => by subst q; exact Value.ref.inj ht⟩
    have H_FLOAT : r_FLOAT = t ↔ jj = (1 : Int32) := ⟨fun q => Value.int.inj (own_fld_eq Ft (q ▸ F_FLOAT_ordinal)), fun q => by subst q; exact Value.ref.inj ht⟩
    have H_DOUBLE : r_DOUBLE = t ↔ jj = (0 : Int32) := ⟨fun q => Value.int.inj (own_fld_eq Ft (q ▸ F_DOUBLE_ordinal)), fun q => by subst q; exact Value.ref.inj ht⟩
    refine own_go (fun _ hr => XS.iload X101.here hx rfl (hb hby at_202) rfl (own_aaload X101 hx hZ e101 f101 jj (.ref t) hjb ht rfl rfl rfl (hb hby at_204) hr)) ?_
    show own_Go p e below _ (T101.setTop (mkF m 205 #[.val (.int x0), .val (.int x1), .val (.ref b1), .val (.int (3 : Int32)), .val (.int jj), .val (.int (1 : Int32))] [(.ref t), (.ref r_INTEGER)]))
    have K196 := (K98.wr W101 (Or.inr sz3))
    have f197 := (F_INTEGER_promotion.keep K196 nin0)
    have f198 := (F_DECIMAL_promotion.keep K196 nin0)
    have f199 := (F_FLOAT_promotion.keep K196 nin0)
    have f200 := (F_DOUBLE_promotion.keep K196 nin0)
    have Z201 := (Nat.le_trans (Nat.le_trans (Nat.le_trans (Nat.le_trans (Nat.le_trans (Nat.le_trans (Nat.le_trans (Nat.le_trans (Nat.le_trans (Nat.le_trans (Nat.le_trans (Nat.le_trans (Nat.le_trans (Nat.le_trans (Nat.le_trans (Nat.le_trans (Nat.le_trans (Nat.le_trans (Nat.le_trans (Nat.le_trans (Nat.le_trans Z0 E1.1) (Nat.le_of_eq W7.size.symm)) (Nat.le_of_eq W11.size.symm)) (Nat.le_of_eq W16.size.symm)) (Nat.le_of_eq W21.size.symm)) (Nat.le_of_eq W26.size.symm)) (Nat.le_of_eq W31.size.symm)) (Nat.le_of_eq W36.size.symm)) (Nat.le_of_eq W41.size.symm)) (Nat.le_of_eq W46.size.symm)) (Nat.le_of_eq W51.size.symm)) (Nat.le_of_eq W56.size.symm)) (Nat.le_of_eq W61.size.symm)) (Nat.le_of_eq W66.size.symm)) (Nat.le_of_eq W71.size.symm)) (Nat.le_of_eq W76.size.symm)) (Nat.le_of_eq W81.size.symm)) (Nat.le_of_eq W86.size.symm)) (Nat.le_of_eq W91.size.symm)) (Nat.le_of_eq W96.size.symm)) (Nat.le_of_eq W101.size.symm))
    have f202 := (((((((((((((((((f22.wr W21).wr W26).wr W31).wr W36).wr W41).wr W46).wr W51).wr W56).wr W61).wr W66).wr W71).wr W76).wr W81).wr W86).wr W91).wr W96).wr W101)
    refine own_cv X101 hx hZ hown (notFace_of_selects (args := #[]) (mvT hZ (hw _ (own_m 48 rfl)))) (hw _ (own_m 45 rfl)) (hw _ (own_m 46 rfl)) (hw _ (own_m 48 rfl)) (hw _ (own_m 47 rfl)) (hw _ (own_m 3 rfl)) (hw _ (own_m 49 rfl)) (by decide) f202 (rm := { frames := 0, cells := 0, slots := 0, locals := 0 }) (rm_pr3 l Z a0 hw [] r_INTEGER r_DECIMAL r_FLOAT r_DOUBLE t jj h101 n0 Z201 f197 f198 f199 f200 H_INTEGER H_DECIMAL H_FLOAT H_DOUBLE) (by decide) (W := 0) (by decide) (by decide) (by decide) e101 (by rw [hml]; rfl) (argsL := [(.ref t)]) (lenOf own_pd0 rfl) (rest := []) rfl rfl (Nat.le_of_eq rfl) (hb hby at_205) ?_
    intro _ T195 L195 X195 hQ195
    obtain ⟨rfl, N195q, e195⟩ := hQ195
    have N195 := Fr.app N101 N195q
    show own_Go p e below _ (T195.setTop (mkF m 208 #[.val (.int x0), .val (.int x1), .val (.ref b1), .val (.int (3 : Int32)), .val (.int jj), .val (.int (1 : Int32))] [(.int (own_p3 jj))]))
    refine own_go (fun _ hr => XS.iload X195.here hx rfl (hb hby at_208) rfl hr) ?_
    show own_Go p e below _ (T195.setTop (mkF m 210 #[.val (.int x0), .val (.int x1), .val (.ref b1), .val (.int (3 : Int32)), .val (.int jj), .val (.int (1 : Int32))] [(.int (1 : Int32)), (.int (own_p3 jj))]))
    have c203 : (own_p3 jj) = (1 : Int32) := by
                        have q := hj20
                        have p0 := c175
                        have p1 := c185
                        clear hj20 ht Ft hjb
                        simp only [Int32.lt_iff_toInt_lt, ← Int32.toInt_inj, Int32.reduceToInt] at p0 p1
                        rcases q with q | q | q | q | q | q | q | q | q | q | q | q | q | q | q | q | q | q | q | q <;> subst q <;> first | decide | (exfalso; revert p0 p1; decide)
    refine own_go (fun _ hr => XS.icmpNo X195.here hx rfl (hb hby at_210) rfl (teq c203).2 hr) ?_
    show own_Go p e below _ (T195.setTop (mkF m 213 #[.val (.int x0), .val (.int x1), .val (.ref b1), .val (.int (3 : Int32)), .val (.int jj), .val (.int (1 : Int32))] []))
    refine own_go (fun _ hr => XS.iconst X195.here hx rfl (hb hby at_213) (XS.goto X195.here hx rfl (pc0 := 214) (pc' := 218) rfl (hb hby at_214) (by decide) (by decide) hr)) ?_
    show own_Go p e below _ (T195.setTop (mkF m 218 #[.val (.int x0), .val (.int x1), .val (.ref b1), .val (.int (3 : Int32)), .val (.int jj), .val (.int (1 : Int32))] [(.int (1 : Int32))]))
    exact own_retN X195 hx hlk Bd.returns (t := .boolean) (by simp) (hb hby at_218) (by decide) (by decide) ⟨rfl, N195⟩
  · rw [hk105]
    show own_Go p e below _ (T101.setTop (mkF m 157 #[.val (.int x0), .val (.int x1), .val (.ref b1), .val (.int (4 : Int32)), .val (.int jj), .unset] []))
    refine own_go (fun _ hr => XS.iloadN X101.here hx rfl (hb hby at_157) rfl (XS.iload X101.here hx rfl (hb hby at_158) rfl hr)) ?_
    show own_Go p e below _ (T101.setTop (mkF m 160 #[.val (.int x0), .val (.int x1), .val (.ref b1), .val (.int (4 : Int32)), .val (.int jj), .unset] [(.int jj), (.int (4 : Int32))]))
    by_cases c204 : (4 : Int32) = jj
    · refine own_go (fun _ hr => XS.icmpYes X101.here hx rfl (pc0 := 160) (pc' := 191) rfl (hb hby at_160) rfl (teq c204).1 (by decide) (by decide) hr) ?_
      show own_Go p e below _ (T101.setTop (mkF m 191 #[.val (.int x0), .val (.int x1), .val (.ref b1), .val (.int (4 : Int32)), .val (.int jj), .unset] []))
      refine own_go (fun _ hr => XS.iconst X101.here hx rfl (hb hby at_191) (XS.goto X101.here hx rfl (pc0 := 192) (pc' := 196) rfl (hb hby at_192) (by decide) (by decide) (XS.istore X101.here hx rfl (hb hby at_196) rfl (l' := #[.val (.int x0), .val (.int x1), .val (.ref b1), .val (.int (4 : Int32)), .val (.int jj), .val (.int (1 : Int32))]) rfl (XS.aloadN X101.here hx rfl (hb hby at_198) rfl rfl (XS.iloadN X101.here hx rfl (hb hby at_199) rfl (own_aaload X101 hx hZ e101 f101 (4 : Int32) (.ref r_STRING) ⟨by decide, by decide⟩ rfl rfl rfl rfl (hb hby at_200) (XS.aloadN X101.here hx rfl (hb hby at_201) rfl rfl hr))))))) ?_
      show own_Go p e below _ (T101.setTop (mkF m 202 #[.val (.int x0), .val (.int x1), .val (.ref b1), .val (.int (4 : Int32)), .val (.int jj), .val (.int (1 : Int32))] [(.ref b1), (.ref r_STRING)]))
      obtain ⟨t, ht, Ft, hjb⟩ : ∃ t, ([(.ref r_DOUBLE), (.ref r_FLOAT), (.ref r_DECIMAL), (.ref r_INTEGER), (.ref r_STRING), (.ref r_ANY_URI), (.ref r_UNTYPED_ATOMIC), (.ref r_BOOLEAN), (.ref r_DATE_TIME), (.ref r_DATE), (.ref r_TIME), (.ref r_YEAR_MONTH_DURATION), (.ref r_DAY_TIME_DURATION), (.ref r_DURATION), (.ref r_G_YEAR_MONTH), (.ref r_G_YEAR), (.ref r_G_MONTH_DAY), (.ref r_G_DAY), (.ref r_G_MONTH), (.ref r_QNAME)] : List Value).getD jj.toNatClampNeg .null = .ref t ∧ Fld Z h0 t "java/lang/Enum" "ordinal" "I" (.int jj) ∧ (¬ jj < 0 ∧ jj < 20) := by
        rcases hj20 with q | q | q | q | q | q | q | q | q | q | q | q | q | q | q | q | q | q | q | q
        · subst q; exact ⟨r_DOUBLE, rfl, F_DOUBLE_ordinal, by decide, by decide⟩
        · subst q; exact ⟨r_FLOAT, rfl, F_FLOAT_ordinal, by decide, by decide⟩
        · subst q; exact ⟨r_DECIMAL, rfl, F_DECIMAL_ordinal, by decide, by decide⟩
        · subst q; exact ⟨r_INTEGER, rfl, F_INTEGER_ordinal, by decide, by decide⟩
        · subst q; exact ⟨r_STRING, rfl, F_STRING_ordinal, by decide, by decide⟩
        · subst q; exact ⟨r_ANY_URI, rfl, F_ANY_URI_ordinal, by decide, by decide⟩
        · subst q; exact ⟨r_UNTYPED_ATOMIC, rfl, F_UNTYPED_ATOMIC_ordinal, by decide, by decide⟩
        · subst q; exact ⟨r_BOOLEAN, rfl, F_BOOLEAN_ordinal, by decide, by decide⟩
        · subst q; exact ⟨r_DATE_TIME, rfl, F_DATE_TIME_ordinal, by decide, by decide⟩
        · subst q; exact ⟨r_DATE, rfl, F_DATE_ordinal, by decide, by decide⟩
        · subst q; exact ⟨r_TIME, rfl, F_TIME_ordinal, by decide, by decide⟩
        · subst q; exact ⟨r_YEAR_MONTH_DURATION, rfl, F_YEAR_MONTH_DURATION_ordinal, by decide, by decide⟩
        · subst q; exact ⟨r_DAY_TIME_DURATION, rfl, F_DAY_TIME_DURATION_ordinal, by decide, by decide⟩
        · subst q; exact ⟨r_DURATION, rfl, F_DURATION_ordinal, by decide, by decide⟩
        · subst q; exact ⟨r_G_YEAR_MONTH, rfl, F_G_YEAR_MONTH_ordinal, by decide, by decide⟩
        · subst q; exact ⟨r_G_YEAR, rfl, F_G_YEAR_ordinal, by decide, by decide⟩
        · subst q; exact ⟨r_G_MONTH_DAY, rfl, F_G_MONTH_DAY_ordinal, by decide, by decide⟩
        · subst q; exact ⟨r_G_DAY, rfl, F_G_DAY_ordinal, by decide, by decide⟩
        · subst q; exact ⟨r_G_MONTH, rfl, F_G_MONTH_ordinal, by decide, by decide⟩
        · subst q; exact ⟨r_QNAME, rfl, F_QNAME_ordinal, by decide, by decide⟩
      have H_STRING : r_STRING = t ↔ jj = (4 : Int32) := ⟨fun q => Value.int.inj (own_fld_eq Ft (q ▸ F_STRING_ordinal)), fun q => by subst q; exact Value.ref.inj ht⟩
      refine own_go (fun _ hr => XS.iload X101.here hx rfl (hb hby at_202) rfl (own_aaload X101 hx hZ e101 f101 jj (.ref t) hjb ht rfl rfl rfl (hb hby at_204) hr)) ?_
      show own_Go p e below _ (T101.setTop (mkF m 205 #[.val (.int x0), .val (.int x1), .val (.ref b1), .val (.int (4 : Int32)), .val (.int jj), .val (.int (1 : Int32))] [(.ref t), (.ref r_STRING)]))
      have K206 := (K98.wr W101 (Or.inr sz3))
      have f207 := (F_STRING_promotion.keep K206 nin0)
      have Z208 := (Nat.le_trans (Nat.le_trans (Nat.le_trans (Nat.le_trans (Nat.le_trans (Nat.le_trans (Nat.le_trans (Nat.le_trans (Nat.le_trans (Nat.le_trans (Nat.le_trans (Nat.le_trans (Nat.le_trans (Nat.le_trans (Nat.le_trans (Nat.le_trans (Nat.le_trans (Nat.le_trans (Nat.le_trans (Nat.le_trans (Nat.le_trans Z0 E1.1) (Nat.le_of_eq W7.size.symm)) (Nat.le_of_eq W11.size.symm)) (Nat.le_of_eq W16.size.symm)) (Nat.le_of_eq W21.size.symm)) (Nat.le_of_eq W26.size.symm)) (Nat.le_of_eq W31.size.symm)) (Nat.le_of_eq W36.size.symm)) (Nat.le_of_eq W41.size.symm)) (Nat.le_of_eq W46.size.symm)) (Nat.le_of_eq W51.size.symm)) (Nat.le_of_eq W56.size.symm)) (Nat.le_of_eq W61.size.symm)) (Nat.le_of_eq W66.size.symm)) (Nat.le_of_eq W71.size.symm)) (Nat.le_of_eq W76.size.symm)) (Nat.le_of_eq W81.size.symm)) (Nat.le_of_eq W86.size.symm)) (Nat.le_of_eq W91.size.symm)) (Nat.le_of_eq W96.size.symm)) (Nat.le_of_eq W101.size.symm))
      have f209 := ((((((((((((((((f27.wr W26).wr W31).wr W36).wr W41).wr W46).wr W51).wr W56).wr W61).wr W66).wr W71).wr W76).wr W81).wr W86).wr W91).wr W96).wr W101)
      refine own_cv X101 hx hZ hown (notFace_of_selects (args := #[]) (mvT hZ (hw _ (own_m 48 rfl)))) (hw _ (own_m 45 rfl)) (hw _ (own_m 46 rfl)) (hw _ (own_m 48 rfl)) (hw _ (own_m 47 rfl)) (hw _ (own_m 3 rfl)) (hw _ (own_m 49 rfl)) (by decide) f209 (rm := { frames := 0, cells := 0, slots := 0, locals := 0 }) (rm_pr4 l Z a0 hw [] r_STRING t jj h101 n0 Z208 f207 H_STRING) (by decide) (W := 0) (by decide) (by decide) (by decide) e101 (by rw [hml]; rfl) (argsL := [(.ref t)]) (lenOf own_pd0 rfl) (rest := []) rfl rfl (Nat.le_of_eq rfl) (hb hby at_205) ?_
      intro _ T205 L205 X205 hQ205
      obtain ⟨rfl, N205q, e205⟩ := hQ205
      have N205 := Fr.app N101 N205q
      show own_Go p e below _ (T205.setTop (mkF m 208 #[.val (.int x0), .val (.int x1), .val (.ref b1), .val (.int (4 : Int32)), .val (.int jj), .val (.int (1 : Int32))] [(.int (own_p4 jj))]))
      refine own_go (fun _ hr => XS.iload X205.here hx rfl (hb hby at_208) rfl hr) ?_
      show own_Go p e below _ (T205.setTop (mkF m 210 #[.val (.int x0), .val (.int x1), .val (.ref b1), .val (.int (4 : Int32)), .val (.int jj), .val (.int (1 : Int32))] [(.int (1 : Int32)), (.int (own_p4 jj))]))
      have c210 : (own_p4 jj) = (1 : Int32) := by
                        have q := hj20
                        have p0 := c204
                        clear hj20 ht Ft hjb
                        simp only [Int32.lt_iff_toInt_lt, ← Int32.toInt_inj, Int32.reduceToInt] at p0
                        rcases q with q | q | q | q | q | q | q | q | q | q | q | q | q | q | q | q | q | q | q | q <;> subst q <;> first | decide | (exfalso; revert p0; decide)
      refine own_go (fun _ hr => XS.icmpNo X205.here hx rfl (hb hby at_210) rfl (teq c210).2 hr) ?_
      show own_Go p e below _ (T205.setTop (mkF m 213 #[.val (.int x0), .val (.int x1), .val (.ref b1), .val (.int (4 : Int32)), .val (.int jj), .val (.int (1 : Int32))] []))
      refine own_go (fun _ hr => XS.iconst X205.here hx rfl (hb hby at_213) (XS.goto X205.here hx rfl (pc0 := 214) (pc' := 218) rfl (hb hby at_214) (by decide) (by decide) hr)) ?_
      show own_Go p e below _ (T205.setTop (mkF m 218 #[.val (.int x0), .val (.int x1), .val (.ref b1), .val (.int (4 : Int32)), .val (.int jj), .val (.int (1 : Int32))] [(.int (1 : Int32))]))
      exact own_retN X205 hx hlk Bd.returns (t := .boolean) (by simp) (hb hby at_218) (by decide) (by decide) ⟨rfl, N205⟩
    refine own_go (fun _ hr => XS.icmpNo X101.here hx rfl (hb hby at_160) rfl (feq c204).1 hr) ?_
    show own_Go p e below _ (T101.setTop (mkF m 163 #[.val (.int x0), .val (.int x1), .val (.ref b1), .val (.int (4 : Int32)), .val (.int jj), .unset] []))
    refine own_go (fun _ hr => XS.iloadN X101.here hx rfl (hb hby at_163) rfl (XS.iconst X101.here hx rfl (hb hby at_164) (XS.icmpYes X101.here hx rfl (pc0 := 165) (pc' := 174) rfl (hb hby at_165) rfl (tlt (by decide)).2.2.1 (by decide) (by decide) (XS.iloadN X101.here hx rfl (hb hby at_174) rfl (XS.iconst X101.here hx rfl (hb hby at_175) (XS.icmpNo X101.here hx rfl (hb hby at_176) rfl (feq (by decide)).1 (XS.iloadN X101.here hx rfl (hb hby at_179) rfl (XS.bipush X101.here hx rfl (hb hby at_180) (XS.icmpYes X101.here hx rfl (pc0 := 182) (pc' := 195) rfl (hb hby at_182) rfl (feq (by decide)).2 (by decide) (by decide) (XS.iconst X101.here hx rfl (hb hby at_195) hr)))))))))) ?_
    show own_Go p e below _ (T101.setTop (mkF m 196 #[.val (.int x0), .val (.int x1), .val (.ref b1), .val (.int (4 : Int32)), .val (.int jj), .unset] [(.int (0 : Int32))]))
    refine own_go (fun _ hr => XS.istore X101.here hx rfl (hb hby at_196) rfl (l' := #[.val (.int x0), .val (.int x1), .val (.ref b1), .val (.int (4 : Int32)), .val (.int jj), .val (.int (0 : Int32))]) rfl (XS.aloadN X101.here hx rfl (hb hby at_198) rfl rfl (XS.iloadN X101.here hx rfl (hb hby at_199) rfl (own_aaload X101 hx hZ e101 f101 (4 : Int32) (.ref r_STRING) ⟨by decide, by decide⟩ rfl rfl rfl rfl (hb hby at_200) (XS.aloadN X101.here hx rfl (hb hby at_201) rfl rfl hr))))) ?_
    show own_Go p e below _ (T101.setTop (mkF m 202 #[.val (.int x0), .val (.int x1), .val (.ref b1), .val (.int (4 : Int32)), .val (.int jj), .val (.int (0 : Int32))] [(.ref b1), (.ref r_STRING)]))
    obtain ⟨t, ht, Ft, hjb⟩ : ∃ t, ([(.ref r_DOUBLE), (.ref r_FLOAT), (.ref r_DECIMAL), (.ref r_INTEGER), (.ref r_STRING), (.ref r_ANY_URI), (.ref r_UNTYPED_ATOMIC), (.ref r_BOOLEAN), (.ref r_DATE_TIME), (.ref r_DATE), (.ref r_TIME), (.ref r_YEAR_MONTH_DURATION), (.ref r_DAY_TIME_DURATION), (.ref r_DURATION), (.ref r_G_YEAR_MONTH), (.ref r_G_YEAR), (.ref r_G_MONTH_DAY), (.ref r_G_DAY), (.ref r_G_MONTH), (.ref r_QNAME)] : List Value).getD jj.toNatClampNeg .null = .ref t ∧ Fld Z h0 t "java/lang/Enum" "ordinal" "I" (.int jj) ∧ (¬ jj < 0 ∧ jj < 20) := by
      rcases hj20 with q | q | q | q | q | q | q | q | q | q | q | q | q | q | q | q | q | q | q | q
      · subst q; exact ⟨r_DOUBLE, rfl, F_DOUBLE_ordinal, by decide, by decide⟩
      · subst q; exact ⟨r_FLOAT, rfl, F_FLOAT_ordinal, by decide, by decide⟩
      · subst q; exact ⟨r_DECIMAL, rfl, F_DECIMAL_ordinal, by decide, by decide⟩
      · subst q; exact ⟨r_INTEGER, rfl, F_INTEGER_ordinal, by decide, by decide⟩
      · subst q; exact ⟨r_STRING, rfl, F_STRING_ordinal, by decide, by decide⟩
      · subst q; exact ⟨r_ANY_URI, rfl, F_ANY_URI_ordinal, by decide, by decide⟩
      · subst q; exact ⟨r_UNTYPED_ATOMIC, rfl, F_UNTYPED_ATOMIC_ordinal, by decide, by decide⟩
      · subst q; exact ⟨r_BOOLEAN, rfl, F_BOOLEAN_ordinal, by decide, by decide⟩
      · subst q; exact ⟨r_DATE_TIME, rfl, F_DATE_TIME_ordinal, by decide, by decide⟩
      · subst q; exact ⟨r_DATE, rfl, F_DATE_ordinal, by decide, by decide⟩
      · subst q; exact ⟨r_TIME, rfl, F_TIME_ordinal, by decide, by decide⟩
      · subst q; exact ⟨r_YEAR_MONTH_DURATION, rfl, F_YEAR_MONTH_DURATION_ordinal, by decide, by decide⟩
      · subst q; exact ⟨r_DAY_TIME_DURATION, rfl, F_DAY_TIME_DURATION_ordinal, by decide, by decide⟩
      · subst q; exact ⟨r_DURATION, rfl, F_DURATION_ordinal, by decide, by decide⟩
      · subst q; exact ⟨r_G_YEAR_MONTH, rfl, F_G_YEAR_MONTH_ordinal, by decide, by decide⟩
      · subst q; exact ⟨r_G_YEAR, rfl, F_G_YEAR_ordinal, by decide, by decide⟩
      · subst q; exact ⟨r_G_MONTH_DAY, rfl, F_G_MONTH_DAY_ordinal, by decide, by decide⟩
      · subst q; exact ⟨r_G_DAY, rfl, F_G_DAY_ordinal, by decide, by decide⟩
      · subst q; exact ⟨r_G_MONTH, rfl, F_G_MONTH_ordinal, by decide, by decide⟩
      · subst q; exact ⟨r_QNAME, rfl, F_QNAME_ordinal, by decide, by decide⟩
    have H_STRING : r_STRING = t ↔ jj = (4 : Int32) := ⟨fun q => Value.int.inj (own_fld_eq Ft (q ▸ F_STRING_ordinal)), fun q => by subst q; exact Value.ref.inj ht⟩
    refine own_go (fun _ hr => XS.iload X101.here hx rfl (hb hby at_202) rfl (own_aaload X101 hx hZ e101 f101 jj (.ref t) hjb ht rfl rfl rfl (hb hby at_204) hr)) ?_
    show own_Go p e below _ (T101.setTop (mkF m 205 #[.val (.int x0), .val (.int x1), .val (.ref b1), .val (.int (4 : Int32)), .val (.int jj), .val (.int (0 : Int32))] [(.ref t), (.ref r_STRING)]))
    have K212 := (K98.wr W101 (Or.inr sz3))
    have f213 := (F_STRING_promotion.keep K212 nin0)
    have Z214 := (Nat.le_trans (Nat.le_trans (Nat.le_trans (Nat.le_trans (Nat.le_trans (Nat.le_trans (Nat.le_trans (Nat.le_trans (Nat.le_trans (Nat.le_trans (Nat.le_trans (Nat.le_trans (Nat.le_trans (Nat.le_trans (Nat.le_trans (Nat.le_trans (Nat.le_trans (Nat.le_trans (Nat.le_trans (Nat.le_trans (Nat.le_trans Z0 E1.1) (Nat.le_of_eq W7.size.symm)) (Nat.le_of_eq W11.size.symm)) (Nat.le_of_eq W16.size.symm)) (Nat.le_of_eq W21.size.symm)) (Nat.le_of_eq W26.size.symm)) (Nat.le_of_eq W31.size.symm)) (Nat.le_of_eq W36.size.symm)) (Nat.le_of_eq W41.size.symm)) (Nat.le_of_eq W46.size.symm)) (Nat.le_of_eq W51.size.symm)) (Nat.le_of_eq W56.size.symm)) (Nat.le_of_eq W61.size.symm)) (Nat.le_of_eq W66.size.symm)) (Nat.le_of_eq W71.size.symm)) (Nat.le_of_eq W76.size.symm)) (Nat.le_of_eq W81.size.symm)) (Nat.le_of_eq W86.size.symm)) (Nat.le_of_eq W91.size.symm)) (Nat.le_of_eq W96.size.symm)) (Nat.le_of_eq W101.size.symm))
    have f215 := ((((((((((((((((f27.wr W26).wr W31).wr W36).wr W41).wr W46).wr W51).wr W56).wr W61).wr W66).wr W71).wr W76).wr W81).wr W86).wr W91).wr W96).wr W101)
    refine own_cv X101 hx hZ hown (notFace_of_selects (args := #[]) (mvT hZ (hw _ (own_m 48 rfl)))) (hw _ (own_m 45 rfl)) (hw _ (own_m 46 rfl)) (hw _ (own_m 48 rfl)) (hw _ (own_m 47 rfl)) (hw _ (own_m 3 rfl)) (hw _ (own_m 49 rfl)) (by decide) f215 (rm := { frames := 0, cells := 0, slots := 0, locals := 0 }) (rm_pr4 l Z a0 hw [] r_STRING t jj h101 n0 Z214 f213 H_STRING) (by decide) (W := 0) (by decide) (by decide) (by decide) e101 (by rw [hml]; rfl) (argsL := [(.ref t)]) (lenOf own_pd0 rfl) (rest := []) rfl rfl (Nat.le_of_eq rfl) (hb hby at_205) ?_
    intro _ T211 L211 X211 hQ211
    obtain ⟨rfl, N211q, e211⟩ := hQ211
    have N211 := Fr.app N101 N211q
    show own_Go p e below _ (T211.setTop (mkF m 208 #[.val (.int x0), .val (.int x1), .val (.ref b1), .val (.int (4 : Int32)), .val (.int jj), .val (.int (0 : Int32))] [(.int (own_p4 jj))]))
    refine own_go (fun _ hr => XS.iload X211.here hx rfl (hb hby at_208) rfl hr) ?_
    show own_Go p e below _ (T211.setTop (mkF m 210 #[.val (.int x0), .val (.int x1), .val (.ref b1), .val (.int (4 : Int32)), .val (.int jj), .val (.int (0 : Int32))] [(.int (0 : Int32)), (.int (own_p4 jj))]))
    have c216 : (own_p4 jj) = (0 : Int32) := by
                        have q := hj20
                        have p0 := c204
                        clear hj20 ht Ft hjb
                        simp only [Int32.lt_iff_toInt_lt, ← Int32.toInt_inj, Int32.reduceToInt] at p0
                        rcases q with q | q | q | q | q | q | q | q | q | q | q | q | q | q | q | q | q | q | q | q <;> subst q <;> first | decide | (exfalso; revert p0; decide)
    refine own_go (fun _ hr => XS.icmpNo X211.here hx rfl (hb hby at_210) rfl (teq c216).2 hr) ?_
    show own_Go p e below _ (T211.setTop (mkF m 213 #[.val (.int x0), .val (.int x1), .val (.ref b1), .val (.int (4 : Int32)), .val (.int jj), .val (.int (0 : Int32))] []))
    refine own_go (fun _ hr => XS.iconst X211.here hx rfl (hb hby at_213) (XS.goto X211.here hx rfl (pc0 := 214) (pc' := 218) rfl (hb hby at_214) (by decide) (by decide) hr)) ?_
    show own_Go p e below _ (T211.setTop (mkF m 218 #[.val (.int x0), .val (.int x1), .val (.ref b1), .val (.int (4 : Int32)), .val (.int jj), .val (.int (0 : Int32))] [(.int (1 : Int32))]))
    exact own_retN X211 hx hlk Bd.returns (t := .boolean) (by simp) (hb hby at_218) (by decide) (by decide) ⟨rfl, N211⟩
  · rw [hk105]
    show own_Go p e below _ (T101.setTop (mkF m 157 #[.val (.int x0), .val (.int x1), .val (.ref b1), .val (.int (5 : Int32)), .val (.int jj), .unset] []))
    refine own_go (fun _ hr => XS.iloadN X101.here hx rfl (hb hby at_157) rfl (XS.iload X101.here hx rfl (hb hby at_158) rfl hr)) ?_
    show own_Go p e below _ (T101.setTop (mkF m 160 #[.val (.int x0), .val (.int x1), .val (.ref b1), .val (.int (5 : Int32)), .val (.int jj), .unset] [(.int jj), (.int (5 : Int32))]))
    by_cases c217 : (5 : Int32) = jj
    · refine own_go (fun _ hr => XS.icmpYes X101.here hx rfl (pc0 := 160) (pc' := 191) rfl (hb hby at_160) rfl (teq c217).1 (by decide) (by decide) hr) ?_
      show own_Go p e below _ (T101.setTop (mkF m 191 #[.val (.int x0), .val (.int x1), .val (.ref b1), .val (.int (5 : Int32)), .val (.int jj), .unset] []))
      refine own_go (fun _ hr => XS.iconst X101.here hx rfl (hb hby at_191) (XS.goto X101.here hx rfl (pc0 := 192) (pc' := 196) rfl (hb hby at_192) (by decide) (by decide) (XS.istore X101.here hx rfl (hb hby at_196) rfl (l' := #[.val (.int x0), .val (.int x1), .val (.ref b1), .val (.int (5 : Int32)), .val (.int jj), .val (.int (1 : Int32))]) rfl (XS.aloadN X101.here hx rfl (hb hby at_198) rfl rfl (XS.iloadN X101.here hx rfl (hb hby at_199) rfl (own_aaload X101 hx hZ e101 f101 (5 : Int32) (.ref r_ANY_URI) ⟨by decide, by decide⟩ rfl rfl rfl rfl (hb hby at_200) (XS.aloadN X101.here hx rfl (hb hby at_201) rfl rfl hr))))))) ?_
      show own_Go p e below _ (T101.setTop (mkF m 202 #[.val (.int x0), .val (.int x1), .val (.ref b1), .val (.int (5 : Int32)), .val (.int jj), .val (.int (1 : Int32))] [(.ref b1), (.ref r_ANY_URI)]))
      obtain ⟨t, ht, Ft, hjb⟩ : ∃ t, ([(.ref r_DOUBLE), (.ref r_FLOAT), (.ref r_DECIMAL), (.ref r_INTEGER), (.ref r_STRING), (.ref r_ANY_URI), (.ref r_UNTYPED_ATOMIC), (.ref r_BOOLEAN), (.ref r_DATE_TIME), (.ref r_DATE), (.ref r_TIME), (.ref r_YEAR_MONTH_DURATION), (.ref r_DAY_TIME_DURATION), (.ref r_DURATION), (.ref r_G_YEAR_MONTH), (.ref r_G_YEAR), (.ref r_G_MONTH_DAY), (.ref r_G_DAY), (.ref r_G_MONTH), (.ref r_QNAME)] : List Value).getD jj.toNatClampNeg .null = .ref t ∧ Fld Z h0 t "java/lang/Enum" "ordinal" "I" (.int jj) ∧ (¬ jj < 0 ∧ jj < 20) := by
        rcases hj20 with q | q | q | q | q | q | q | q | q | q | q | q | q | q | q | q | q | q | q | q
        · subst q; exact ⟨r_DOUBLE, rfl, F_DOUBLE_ordinal, by decide, by decide⟩
        · subst q; exact ⟨r_FLOAT, rfl, F_FLOAT_ordinal, by decide, by decide⟩
        · subst q; exact ⟨r_DECIMAL, rfl, F_DECIMAL_ordinal, by decide, by decide⟩
        · subst q; exact ⟨r_INTEGER, rfl, F_INTEGER_ordinal, by decide, by decide⟩
        · subst q; exact ⟨r_STRING, rfl, F_STRING_ordinal, by decide, by decide⟩
        · subst q; exact ⟨r_ANY_URI, rfl, F_ANY_URI_ordinal, by decide, by decide⟩
        · subst q; exact ⟨r_UNTYPED_ATOMIC, rfl, F_UNTYPED_ATOMIC_ordinal, by decide, by decide⟩
        · subst q; exact ⟨r_BOOLEAN, rfl, F_BOOLEAN_ordinal, by decide, by decide⟩
        · subst q; exact ⟨r_DATE_TIME, rfl, F_DATE_TIME_ordinal, by decide, by decide⟩
        · subst q; exact ⟨r_DATE, rfl, F_DATE_ordinal, by decide, by decide⟩
        · subst q; exact ⟨r_TIME, rfl, F_TIME_ordinal, by decide, by decide⟩
        · subst q; exact ⟨r_YEAR_MONTH_DURATION, rfl, F_YEAR_MONTH_DURATION_ordinal, by decide, by decide⟩
        · subst q; exact ⟨r_DAY_TIME_DURATION, rfl, F_DAY_TIME_DURATION_ordinal, by decide, by decide⟩
        · subst q; exact ⟨r_DURATION, rfl, F_DURATION_ordinal, by decide, by decide⟩
        · subst q; exact ⟨r_G_YEAR_MONTH, rfl, F_G_YEAR_MONTH_ordinal, by decide, by decide⟩
        · subst q; exact ⟨r_G_YEAR, rfl, F_G_YEAR_ordinal, by decide, by decide⟩
        · subst q; exact ⟨r_G_MONTH_DAY, rfl, F_G_MONTH_DAY_ordinal, by decide, by decide⟩
        · subst q; exact ⟨r_G_DAY, rfl, F_G_DAY_ordinal, by decide, by decide⟩
        · subst q; exact ⟨r_G_MONTH, rfl, F_G_MONTH_ordinal, by decide, by decide⟩
        · subst q; exact ⟨r_QNAME, rfl, F_QNAME_ordinal, by decide, by decide⟩
      have H_ANY_URI : r_ANY_URI = t ↔ jj = (5 : Int32) := ⟨fun q => Value.int.inj (own_fld_eq Ft (q ▸ F_ANY_URI_ordinal)), fun q => by subst q; exact Value.ref.inj ht⟩
      have H_STRING : r_STRING = t ↔ jj = (4 : Int32) := ⟨fun q => Value.int.inj (own_fld_eq Ft (q ▸ F_STRING_ordinal)), fun q => by subst q; exact Value.ref.inj ht⟩
      refine own_go (fun _ hr => XS.iload X101.here hx rfl (hb hby at_202) rfl (own_aaload X101 hx hZ e101 f101 jj (.ref t) hjb ht rfl rfl rfl (hb hby at_204) hr)) ?_
      show own_Go p e below _ (T101.setTop (mkF m 205 #[.val (.int x0), .val (.int x1), .val (.ref b1), .val (.int (5 : Int32)), .val (.int jj), .val (.int (1 : Int32))] [(.ref t), (.ref r_ANY_URI)]))
      have K219 := (K98.wr W101 (Or.inr sz3))
      have f220 := (F_ANY_URI_promotion.keep K219 nin0)
      have f221 := (F_STRING_promotion.keep K219 nin0)
      have Z222 := (Nat.le_trans (Nat.le_trans (Nat.le_trans (Nat.le_trans (Nat.le_trans (Nat.le_trans (Nat.le_trans (Nat.le_trans (Nat.le_trans (Nat.le_trans (Nat.le_trans (Nat.le_trans (Nat.le_trans (Nat.le_trans (Nat.le_trans (Nat.le_trans (Nat.le_trans (Nat.le_trans (Nat.le_trans (Nat.le_trans (Nat.le_trans Z0 E1.1) (Nat.le_of_eq W7.size.symm)) (Nat.le_of_eq W11.size.symm)) (Nat.le_of_eq W16.size.symm)) (Nat.le_of_eq W21.size.symm)) (Nat.le_of_eq W26.size.symm)) (Nat.le_of_eq W31.size.symm)) (Nat.le_of_eq W36.size.symm)) (Nat.le_of_eq W41.size.symm)) (Nat.le_of_eq W46.size.symm)) (Nat.le_of_eq W51.size.symm)) (Nat.le_of_eq W56.size.symm)) (Nat.le_of_eq W61.size.symm)) (Nat.le_of_eq W66.size.symm)) (Nat.le_of_eq W71.size.symm)) (Nat.le_of_eq W76.size.symm)) (Nat.le_of_eq W81.size.symm)) (Nat.le_of_eq W86.size.symm)) (Nat.le_of_eq W91.size.symm)) (Nat.le_of_eq W96.size.symm)) (Nat.le_of_eq W101.size.symm))
      have f223 := (((((((((((((((f32.wr W31).wr W36).wr W41).wr W46).wr W51).wr W56).wr W61).wr W66).wr W71).wr W76).wr W81).wr W86).wr W91).wr W96).wr W101)
      refine own_cv X101 hx hZ hown (notFace_of_selects (args := #[]) (mvT hZ (hw _ (own_m 48 rfl)))) (hw _ (own_m 45 rfl)) (hw _ (own_m 46 rfl)) (hw _ (own_m 48 rfl)) (hw _ (own_m 47 rfl)) (hw _ (own_m 3 rfl)) (hw _ (own_m 49 rfl)) (by decide) f223 (rm := { frames := 0, cells := 0, slots := 0, locals := 0 }) (rm_pr5 l Z a0 hw [] r_ANY_URI r_STRING t jj h101 n0 Z222 f220 f221 H_ANY_URI H_STRING) (by decide) (W := 0) (by decide) (by decide) (by decide) e101 (by rw [hml]; rfl) (argsL := [(.ref t)]) (lenOf own_pd0 rfl) (rest := []) rfl rfl (Nat.le_of_eq rfl) (hb hby at_205) ?_
      intro _ T218 L218 X218 hQ218
      obtain ⟨rfl, N218q, e218⟩ := hQ218
      have N218 := Fr.app N101 N218q
      show own_Go p e below _ (T218.setTop (mkF m 208 #[.val (.int x0), .val (.int x1), .val (.ref b1), .val (.int (5 : Int32)), .val (.int jj), .val (.int (1 : Int32))] [(.int (own_p5 jj))]))
      refine own_go (fun _ hr => XS.iload X218.here hx rfl (hb hby at_208) rfl hr) ?_
      show own_Go p e below _ (T218.setTop (mkF m 210 #[.val (.int x0), .val (.int x1), .val (.ref b1), .val (.int (5 : Int32)), .val (.int jj), .val (.int (1 : Int32))] [(.int (1 : Int32)), (.int (own_p5 jj))]))
      have c224 : (own_p5 jj) = (1 : Int32) := by
                        have q := hj20
                        have p0 := c217
                        clear hj20 ht Ft hjb
                        simp only [Int32.lt_iff_toInt_lt, ← Int32.toInt_inj, Int32.reduceToInt] at p0
                        rcases q with q | q | q | q | q | q | q | q | q | q | q | q | q | q | q | q | q | q | q | q <;> subst q <;> first | decide | (exfalso; revert p0; decide)
      refine own_go (fun _ hr => XS.icmpNo X218.here hx rfl (hb hby at_210) rfl (teq c224).2 hr) ?_
      show own_Go p e below _ (T218.setTop (mkF m 213 #[.val (.int x0), .val (.int x1), .val (.ref b1), .val (.int (5 : Int32)), .val (.int jj), .val (.int (1 : Int32))] []))
      refine own_go (fun _ hr => XS.iconst X218.here hx rfl (hb hby at_213) (XS.goto X218.here hx rfl (pc0 := 214) (pc' := 218) rfl (hb hby at_214) (by decide) (by decide) hr)) ?_
      show own_Go p e below _ (T218.setTop (mkF m 218 #[.val (.int x0), .val (.int x1), .val (.ref b1), .val (.int (5 : Int32)), .val (.int jj), .val (.int (1 : Int32))] [(.int (1 : Int32))]))
      exact own_retN X218 hx hlk Bd.returns (t := .boolean) (by simp) (hb hby at_218) (by decide) (by decide) ⟨rfl, N218⟩
    refine own_go (fun _ hr => XS.icmpNo X101.here hx rfl (hb hby at_160) rfl (feq c217).1 hr) ?_
    show own_Go p e below _ (T101.setTop (mkF m 163 #[.val (.int x0), .val (.int x1), .val (.ref b1), .val (.int (5 : Int32)), .val (.int jj), .unset] []))
    refine own_go (fun _ hr => XS.iloadN X101.here hx rfl (hb hby at_163) rfl (XS.iconst X101.here hx rfl (hb hby at_164) (XS.icmpYes X101.here hx rfl (pc0 := 165) (pc' := 174) rfl (hb hby at_165) rfl (tlt (by decide)).2.2.1 (by decide) (by decide) (XS.iloadN X101.here hx rfl (hb hby at_174) rfl (XS.iconst X101.here hx rfl (hb hby at_175) (XS.icmpYes X101.here hx rfl (pc0 := 176) (pc' := 185) rfl (hb hby at_176) rfl (teq (by decide)).1 (by decide) (by decide) (XS.iload X101.here hx rfl (hb hby at_185) rfl (XS.iconst X101.here hx rfl (hb hby at_187) hr)))))))) ?_
    show own_Go p e below _ (T101.setTop (mkF m 188 #[.val (.int x0), .val (.int x1), .val (.ref b1), .val (.int (5 : Int32)), .val (.int jj), .unset] [(.int (4 : Int32)), (.int jj)]))
    by_cases c225 : jj = (4 : Int32)
    · refine own_go (fun _ hr => XS.icmpNo X101.here hx rfl (hb hby at_188) rfl (teq c225).2 hr) ?_
      show own_Go p e below _ (T101.setTop (mkF m 191 #[.val (.int x0), .val (.int x1), .val (.ref b1), .val (.int (5 : Int32)), .val (.int jj), .unset] []))
      refine own_go (fun _ hr => XS.iconst X101.here hx rfl (hb hby at_191) (XS.goto X101.here hx rfl (pc0 := 192) (pc' := 196) rfl (hb hby at_192) (by decide) (by decide) (XS.istore X101.here hx rfl (hb hby at_196) rfl (l' := #[.val (.int x0), .val (.int x1), .val (.ref b1), .val (.int (5 : Int32)), .val (.int jj), .val (.int (1 : Int32))]) rfl (XS.aloadN X101.here hx rfl (hb hby at_198) rfl rfl (XS.iloadN X101.here hx rfl (hb hby at_199) rfl (own_aaload X101 hx hZ e101 f101 (5 : Int32) (.ref r_ANY_URI) ⟨by decide, by decide⟩ rfl rfl rfl rfl (hb hby at_200) (XS.aloadN X101.here hx rfl (hb hby at_201) rfl rfl hr))))))) ?_
      show own_Go p e below _ (T101.setTop (mkF m 202 #[.val (.int x0), .val (.int x1), .val (.ref b1), .val (.int (5 : Int32)), .val (.int jj), .val (.int (1 : Int32))] [(.ref b1), (.ref r_ANY_URI)]))
      obtain ⟨t, ht, Ft, hjb⟩ : ∃ t, ([(.ref r_DOUBLE), (.ref r_FLOAT), (.ref r_DECIMAL), (.ref r_INTEGER), (.ref r_STRING), (.ref r_ANY_URI), (.ref r_UNTYPED_ATOMIC), (.ref r_BOOLEAN), (.ref r_DATE_TIME), (.ref r_DATE), (.ref r_TIME), (.ref r_YEAR_MONTH_DURATION), (.ref r_DAY_TIME_DURATION), (.ref r_DURATION), (.ref r_G_YEAR_MONTH), (.ref r_G_YEAR), (.ref r_G_MONTH_DAY), (.ref r_G_DAY), (.ref r_G_MONTH), (.ref r_QNAME)] : List Value).getD jj.toNatClampNeg .null = .ref t ∧ Fld Z h0 t "java/lang/Enum" "ordinal" "I" (.int jj) ∧ (¬ jj < 0 ∧ jj < 20) := by
        rcases hj20 with q | q | q | q | q | q | q | q | q | q | q | q | q | q | q | q | q | q | q | q
        · subst q; exact ⟨r_DOUBLE, rfl, F_DOUBLE_ordinal, by decide, by decide⟩
        · subst q; exact ⟨r_FLOAT, rfl, F_FLOAT_ordinal, by decide, by decide⟩
        · subst q; exact ⟨r_DECIMAL, rfl, F_DECIMAL_ordinal, by decide, by decide⟩
        · subst q; exact ⟨r_INTEGER, rfl, F_INTEGER_ordinal, by decide, by decide⟩
        · subst q; exact ⟨r_STRING, rfl, F_STRING_ordinal, by decide, by decide⟩
        · subst q; exact ⟨r_ANY_URI, rfl, F_ANY_URI_ordinal, by decide, by decide⟩
        · subst q; exact ⟨r_UNTYPED_ATOMIC, rfl, F_UNTYPED_ATOMIC_ordinal, by decide, by decide⟩
        · subst q; exact ⟨r_BOOLEAN, rfl, F_BOOLEAN_ordinal, by decide, by decide⟩
        · subst q; exact ⟨r_DATE_TIME, rfl, F_DATE_TIME_ordinal, by decide, by decide⟩
        · subst q; exact ⟨r_DATE, rfl, F_DATE_ordinal, by decide, by decide⟩
        · subst q; exact ⟨r_TIME, rfl, F_TIME_ordinal, by decide, by decide⟩
        · subst q; exact ⟨r_YEAR_MONTH_DURATION, rfl, F_YEAR_MONTH_DURATION_ordinal, by decide, by decide⟩
        · subst q; exact ⟨r_DAY_TIME_DURATION, rfl, F_DAY_TIME_DURATION_ordinal, by decide, by decide⟩
        · subst q; exact ⟨r_DURATION, rfl, F_DURATION_ordinal, by decide, by decide⟩
        · subst q; exact ⟨r_G_YEAR_MONTH, rfl, F_G_YEAR_MONTH_ordinal, by decide, by decide⟩
        · subst q; exact ⟨r_G_YEAR, rfl, F_G_YEAR_ordinal, by decide, by decide⟩
        · subst q; exact ⟨r_G_MONTH_DAY, rfl, F_G_MONTH_DAY_ordinal, by decide, by decide⟩
        · subst q; exact ⟨r_G_DAY, rfl, F_G_DAY_ordinal, by decide, by decide⟩
        · subst q; exact ⟨r_G_MONTH, rfl, F_G_MONTH_ordinal, by decide, by decide⟩
        · subst q; exact ⟨r_QNAME, rfl, F_QNAME_ordinal, by decide, by decide⟩
      have H_ANY_URI : r_ANY_URI = t ↔ jj = (5 : Int32) := ⟨fun q => Value.int.inj (own_fld_eq Ft (q ▸ F_ANY_URI_ordinal)), fun q => by subst q; exact Value.ref.inj ht⟩
      have H_STRING : r_STRING = t ↔ jj = (4 : Int32) := ⟨fun q => Value.int.inj (own_fld_eq Ft (q ▸ F_STRING_ordinal)), fun q => by subst q; exact Value.ref.inj ht⟩
      refine own_go (fun _ hr => XS.iload X101.here hx rfl (hb hby at_202) rfl (own_aaload X101 hx hZ e101 f101 jj (.ref t) hjb ht rfl rfl rfl (hb hby at_204) hr)) ?_
      show own_Go p e below _ (T101.setTop (mkF m 205 #[.val (.int x0), .val (.int x1), .val (.ref b1), .val (.int (5 : Int32)), .val (.int jj), .val (.int (1 : Int32))] [(.ref t), (.ref r_ANY_URI)]))
      have K227 := (K98.wr W101 (Or.inr sz3))
      have f228 := (F_ANY_URI_promotion.keep K227 nin0)
      have f229 := (F_STRING_promotion.keep K227 nin0)
      have Z230 := (Nat.le_trans (Nat.le_trans (Nat.le_trans (Nat.le_trans (Nat.le_trans (Nat.le_trans (Nat.le_trans (Nat.le_trans (Nat.le_trans (Nat.le_trans (Nat.le_trans (Nat.le_trans (Nat.le_trans (Nat.le_trans (Nat.le_trans (Nat.le_trans (Nat.le_trans (Nat.le_trans (Nat.le_trans (Nat.le_trans (Nat.le_trans Z0 E1.1) (Nat.le_of_eq W7.size.symm)) (Nat.le_of_eq W11.size.symm)) (Nat.le_of_eq W16.size.symm)) (Nat.le_of_eq W21.size.symm)) (Nat.le_of_eq W26.size.symm)) (Nat.le_of_eq W31.size.symm)) (Nat.le_of_eq W36.size.symm)) (Nat.le_of_eq W41.size.symm)) (Nat.le_of_eq W46.size.symm)) (Nat.le_of_eq W51.size.symm)) (Nat.le_of_eq W56.size.symm)) (Nat.le_of_eq W61.size.symm)) (Nat.le_of_eq W66.size.symm)) (Nat.le_of_eq W71.size.symm)) (Nat.le_of_eq W76.size.symm)) (Nat.le_of_eq W81.size.symm)) (Nat.le_of_eq W86.size.symm)) (Nat.le_of_eq W91.size.symm)) (Nat.le_of_eq W96.size.symm)) (Nat.le_of_eq W101.size.symm))
      have f231 := (((((((((((((((f32.wr W31).wr W36).wr W41).wr W46).wr W51).wr W56).wr W61).wr W66).wr W71).wr W76).wr W81).wr W86).wr W91).wr W96).wr W101)
      refine own_cv X101 hx hZ hown (notFace_of_selects (args := #[]) (mvT hZ (hw _ (own_m 48 rfl)))) (hw _ (own_m 45 rfl)) (hw _ (own_m 46 rfl)) (hw _ (own_m 48 rfl)) (hw _ (own_m 47 rfl)) (hw _ (own_m 3 rfl)) (hw _ (own_m 49 rfl)) (by decide) f231 (rm := { frames := 0, cells := 0, slots := 0, locals := 0 }) (rm_pr5 l Z a0 hw [] r_ANY_URI r_STRING t jj h101 n0 Z230 f228 f229 H_ANY_URI H_STRING) (by decide) (W := 0) (by decide) (by decide) (by decide) e101 (by rw [hml]; rfl) (argsL := [(.ref t)]) (lenOf own_pd0 rfl) (rest := []) rfl rfl (Nat.le_of_eq rfl) (hb hby at_205) ?_
      intro _ T226 L226 X226 hQ226
      obtain ⟨rfl, N226q, e226⟩ := hQ226
      have N226 := Fr.app N101 N226q
      show own_Go p e below _ (T226.setTop (mkF m 208 #[.val (.int x0), .val (.int x1), .val (.ref b1), .val (.int (5 : Int32)), .val (.int jj), .val (.int (1 : Int32))] [(.int (own_p5 jj))]))
      refine own_go (fun _ hr => XS.iload X226.here hx rfl (hb hby at_208) rfl hr) ?_
      show own_Go p e below _ (T226.setTop (mkF m 210 #[.val (.int x0), .val (.int x1), .val (.ref b1), .val (.int (5 : Int32)), .val (.int jj), .val (.int (1 : Int32))] [(.int (1 : Int32)), (.int (own_p5 jj))]))
      have c232 : (own_p5 jj) = (1 : Int32) := by
                        have q := hj20
                        have p0 := c217
                        have p1 := c225
                        clear hj20 ht Ft hjb
                        simp only [Int32.lt_iff_toInt_lt, ← Int32.toInt_inj, Int32.reduceToInt] at p0 p1
                        rcases q with q | q | q | q | q | q | q | q | q | q | q | q | q | q | q | q | q | q | q | q <;> subst q <;> first | decide | (exfalso; revert p0 p1; decide)
      refine own_go (fun _ hr => XS.icmpNo X226.here hx rfl (hb hby at_210) rfl (teq c232).2 hr) ?_
      show own_Go p e below _ (T226.setTop (mkF m 213 #[.val (.int x0), .val (.int x1), .val (.ref b1), .val (.int (5 : Int32)), .val (.int jj), .val (.int (1 : Int32))] []))
      refine own_go (fun _ hr => XS.iconst X226.here hx rfl (hb hby at_213) (XS.goto X226.here hx rfl (pc0 := 214) (pc' := 218) rfl (hb hby at_214) (by decide) (by decide) hr)) ?_
      show own_Go p e below _ (T226.setTop (mkF m 218 #[.val (.int x0), .val (.int x1), .val (.ref b1), .val (.int (5 : Int32)), .val (.int jj), .val (.int (1 : Int32))] [(.int (1 : Int32))]))
      exact own_retN X226 hx hlk Bd.returns (t := .boolean) (by simp) (hb hby at_218) (by decide) (by decide) ⟨rfl, N226⟩
    refine own_go (fun _ hr => XS.icmpYes X101.here hx rfl (pc0 := 188) (pc' := 195) rfl (hb hby at_188) rfl (feq c225).2 (by decide) (by decide) hr) ?_
    show own_Go p e below _ (T101.setTop (mkF m 195 #[.val (.int x0), .val (.int x1), .val (.ref b1), .val (.int (5 : Int32)), .val (.int jj), .unset] []))
    refine own_go (fun _ hr => XS.iconst X101.here hx rfl (hb hby at_195) (XS.istore X101.here hx rfl (hb hby at_196) rfl (l' := #[.val (.int x0), .val (.int x1), .val (.ref b1), .val (.int (5 : Int32)), .val (.int jj), .val (.int (0 : Int32))]) rfl (XS.aloadN X101.here hx rfl (hb hby at_198) rfl rfl (XS.iloadN X101.here hx rfl (hb hby at_199) rfl (own_aaload X101 hx hZ e101 f101 (5 : Int32) (.ref r_ANY_URI) ⟨by decide, by decide⟩ rfl rfl rfl rfl (hb hby at_200) (XS.aloadN X101.here hx rfl (hb hby at_201) rfl rfl hr)))))) ?_
    show own_Go p e below _ (T101.setTop (mkF m 202 #[.val (.int x0), .val (.int x1), .val (.ref b1), .val (.int (5 : Int32)), .val (.int jj), .val (.int (0 : Int32))] [(.ref b1), (.ref r_ANY_URI)]))
    obtain ⟨t, ht, Ft, hjb⟩ : ∃ t, ([(.ref r_DOUBLE), (.ref r_FLOAT), (.ref r_DECIMAL), (.ref r_INTEGER), (.ref r_STRING), (.ref r_ANY_URI), (.ref r_UNTYPED_ATOMIC), (.ref r_BOOLEAN), (.ref r_DATE_TIME), (.ref r_DATE), (.ref r_TIME), (.ref r_YEAR_MONTH_DURATION), (.ref r_DAY_TIME_DURATION), (.ref r_DURATION), (.ref r_G_YEAR_MONTH), (.ref r_G_YEAR), (.ref r_G_MONTH_DAY), (.ref r_G_DAY), (.ref r_G_MONTH), (.ref r_QNAME)] : List Value).getD jj.toNatClampNeg .null = .ref t ∧ Fld Z h0 t "java/lang/Enum" "ordinal" "I" (.int jj) ∧ (¬ jj < 0 ∧ jj < 20) := by
      rcases hj20 with q | q | q | q | q | q | q | q | q | q | q | q | q | q | q | q | q | q | q | q
      · subst q; exact ⟨r_DOUBLE, rfl, F_DOUBLE_ordinal, by decide, by decide⟩
      · subst q; exact ⟨r_FLOAT, rfl, F_FLOAT_ordinal, by decide, by decide⟩
      · subst q; exact ⟨r_DECIMAL, rfl, F_DECIMAL_ordinal, by decide, by decide⟩
      · subst q; exact ⟨r_INTEGER, rfl, F_INTEGER_ordinal, by decide, by decide⟩
      · subst q; exact ⟨r_STRING, rfl, F_STRING_ordinal, by decide, by decide⟩
      · subst q; exact ⟨r_ANY_URI, rfl, F_ANY_URI_ordinal, by decide, by decide⟩
      · subst q; exact ⟨r_UNTYPED_ATOMIC, rfl, F_UNTYPED_ATOMIC_ordinal, by decide, by decide⟩
      · subst q; exact ⟨r_BOOLEAN, rfl, F_BOOLEAN_ordinal, by decide, by decide⟩
      · subst q; exact ⟨r_DATE_TIME, rfl, F_DATE_TIME_ordinal, by decide, by decide⟩
      · subst q; exact ⟨r_DATE, rfl, F_DATE_ordinal, by decide, by decide⟩
      · subst q; exact ⟨r_TIME, rfl, F_TIME_ordinal, by decide, by decide⟩
      · subst q; exact ⟨r_YEAR_MONTH_DURATION, rfl, F_YEAR_MONTH_DURATION_ordinal, by decide, by decide⟩
      · subst q; exact ⟨r_DAY_TIME_DURATION, rfl, F_DAY_TIME_DURATION_ordinal, by decide, by decide⟩
      · subst q; exact ⟨r_DURATION, rfl, F_DURATION_ordinal, by decide, by decide⟩
      · subst q; exact ⟨r_G_YEAR_MONTH, rfl, F_G_YEAR_MONTH_ordinal, by decide, by decide⟩
      · subst q; exact ⟨r_G_YEAR, rfl, F_G_YEAR_ordinal, by decide, by decide⟩
      · subst q; exact ⟨r_G_MONTH_DAY, rfl, F_G_MONTH_DAY_ordinal, by decide, by decide⟩
      · subst q; exact ⟨r_G_DAY, rfl, F_G_DAY_ordinal, by decide, by decide⟩
      · subst q; exact ⟨r_G_MONTH, rfl, F_G_MONTH_ordinal, by decide, by decide⟩
      · subst q; exact ⟨r_QNAME, rfl, F_QNAME_ordinal, by decide, by decide⟩
    have H_ANY_URI : r_ANY_URI = t ↔ jj = (5 : Int32) := ⟨fun q => Value.int.inj (own_fld_eq Ft (q ▸ F_ANY_URI_ordinal)), fun q => by subst q; exact Value.ref.inj ht⟩
    have H_STRING : r_STRING = t ↔ jj = (4 : Int32) := ⟨fun q => Value.int.inj (own_fld_eq Ft (q ▸ F_STRING_ordinal)), fun q => by subst q; exact Value.ref.inj ht⟩
    refine own_go (fun _ hr => XS.iload X101.here hx rfl (hb hby at_202) rfl (own_aaload X101 hx hZ e101 f101 jj (.ref t) hjb ht rfl rfl rfl (hb hby at_204) hr)) ?_
    show own_Go p e below _ (T101.setTop (mkF m 205 #[.val (.int x0), .val (.int x1), .val (.ref b1), .val (.int (5 : Int32)), .val (.int jj), .val (.int (0 : Int32))] [(.ref t), (.ref r_ANY_URI)]))
    have K234 := (K98.wr W101 (Or.inr sz3))
    have f235 := (F_ANY_URI_promotion.keep K234 nin0)
    have f236 := (F_STRING_promotion.keep K234 nin0)
    have Z237 := (Nat.le_trans (Nat.le_trans (Nat.le_trans (Nat.le_trans (Nat.le_trans (Nat.le_trans (Nat.le_trans (Nat.le_trans (Nat.le_trans (Nat.le_trans (Nat.le_trans (Nat.le_trans (Nat.le_trans (Nat.le_trans (Nat.le_trans (Nat.le_trans (Nat.le_trans (Nat.le_trans (Nat.le_trans (Nat.le_trans (Nat.le_trans Z0 E1.1) (Nat.le_of_eq W7.size.symm)) (Nat.le_of_eq W11.size.symm)) (Nat.le_of_eq W16.size.symm)) (Nat.le_of_eq W21.size.symm)) (Nat.le_of_eq W26.size.symm)) (Nat.le_of_eq W31.size.symm)) (Nat.le_of_eq W36.size.symm)) (Nat.le_of_eq W41.size.symm)) (Nat.le_of_eq W46.size.symm)) (Nat.le_of_eq W51.size.symm)) (Nat.le_of_eq W56.size.symm)) (Nat.le_of_eq W61.size.symm)) (Nat.le_of_eq W66.size.symm)) (Nat.le_of_eq W71.size.symm)) (Nat.le_of_eq W76.size.symm)) (Nat.le_of_eq W81.size.symm)) (Nat.le_of_eq W86.size.symm)) (Nat.le_of_eq W91.size.symm)) (Nat.le_of_eq W96.size.symm)) (Nat.le_of_eq W101.size.symm))
    have f238 := (((((((((((((((f32.wr W31).wr W36).wr W41).wr W46).wr W51).wr W56).wr W61).wr W66).wr W71).wr W76).wr W81).wr W86).wr W91).wr W96).wr W101)
    refine own_cv X101 hx hZ hown (notFace_of_selects (args := #[]) (mvT hZ (hw _ (own_m 48 rfl)))) (hw _ (own_m 45 rfl)) (hw _ (own_m 46 rfl)) (hw _ (own_m 48 rfl)) (hw _ (own_m 47 rfl)) (hw _ (own_m 3 rfl)) (hw _ (own_m 49 rfl)) (by decide) f238 (rm := { frames := 0, cells := 0, slots := 0, locals := 0 }) (rm_pr5 l Z a0 hw [] r_ANY_URI r_STRING t jj h101 n0 Z237 f235 f236 H_ANY_URI H_STRING) (by decide) (W := 0) (by decide) (by decide) (by decide) e101 (by rw [hml]; rfl) (argsL := [(.ref t)]) (lenOf own_pd0 rfl) (rest := []) rfl rfl (Nat.le_of_eq rfl) (hb hby at_205) ?_
    intro _ T233 L233 X233 hQ233
    obtain ⟨rfl, N233q, e233⟩ := hQ233
    have N233 := Fr.app N101 N233q
    show own_Go p e below _ (T233.setTop (mkF m 208 #[.val (.int x0), .val (.int x1), .val (.ref b1), .val (.int (5 : Int32)), .val (.int jj), .val (.int (0 : Int32))] [(.int (own_p5 jj))]))
    refine own_go (fun _ hr => XS.iload X233.here hx rfl (hb hby at_208) rfl hr) ?_
    show own_Go p e below _ (T233.setTop (mkF m 210 #[.val (.int x0), .val (.int x1), .val (.ref b1), .val (.int (5 : Int32)), .val (.int jj), .val (.int (0 : Int32))] [(.int (0 : Int32)), (.int (own_p5 jj))]))
    have c239 : (own_p5 jj) = (0 : Int32) := by
                        have q := hj20
                        have p0 := c217
                        have p1 := c225
                        clear hj20 ht Ft hjb
                        simp only [Int32.lt_iff_toInt_lt, ← Int32.toInt_inj, Int32.reduceToInt] at p0 p1
                        rcases q with q | q | q | q | q | q | q | q | q | q | q | q | q | q | q | q | q | q | q | q <;> subst q <;> first | decide | (exfalso; revert p0 p1; decide)
    refine own_go (fun _ hr => XS.icmpNo X233.here hx rfl (hb hby at_210) rfl (teq c239).2 hr) ?_
    show own_Go p e below _ (T233.setTop (mkF m 213 #[.val (.int x0), .val (.int x1), .val (.ref b1), .val (.int (5 : Int32)), .val (.int jj), .val (.int (0 : Int32))] []))
    refine own_go (fun _ hr => XS.iconst X233.here hx rfl (hb hby at_213) (XS.goto X233.here hx rfl (pc0 := 214) (pc' := 218) rfl (hb hby at_214) (by decide) (by decide) hr)) ?_
    show own_Go p e below _ (T233.setTop (mkF m 218 #[.val (.int x0), .val (.int x1), .val (.ref b1), .val (.int (5 : Int32)), .val (.int jj), .val (.int (0 : Int32))] [(.int (1 : Int32))]))
    exact own_retN X233 hx hlk Bd.returns (t := .boolean) (by simp) (hb hby at_218) (by decide) (by decide) ⟨rfl, N233⟩
  · rw [hk105]
    show own_Go p e below _ (T101.setTop (mkF m 157 #[.val (.int x0), .val (.int x1), .val (.ref b1), .val (.int (6 : Int32)), .val (.int jj), .unset] []))
    refine own_go (fun _ hr => XS.iloadN X101.here hx rfl (hb hby at_157) rfl (XS.iload X101.here hx rfl (hb hby at_158) rfl hr)) ?_
    show own_Go p e below _ (T101.setTop (mkF m 160 #[.val (.int x0), .val (.int x1), .val (.ref b1), .val (.int (6 : Int32)), .val (.int jj), .unset] [(.int jj), (.int (6 : Int32))]))
    by_cases c240 : (6 : Int32) = jj
    · refine own_go (fun _ hr => XS.icmpYes X101.here hx rfl (pc0 := 160) (pc' := 191) rfl (hb hby at_160) rfl (teq c240).1 (by decide) (by decide) hr) ?_
      show own_Go p e below _ (T101.setTop (mkF m 191 #[.val (.int x0), .val (.int x1), .val (.ref b1), .val (.int (6 : Int32)), .val (.int jj), .unset] []))
      refine own_go (fun _ hr => XS.iconst X101.here hx rfl (hb hby at_191) (XS.goto X101.here hx rfl (pc0 := 192) (pc' := 196) rfl (hb hby at_192) (by decide) (by decide) (XS.istore X101.here hx rfl (hb hby at_196) rfl (l' := #[.val (.int x0), .val (.int x1), .val (.ref b1), .val (.int (6 : Int32)), .val (.int jj), .val (.int (1 : Int32))]) rfl (XS.aloadN X101.here hx rfl (hb hby at_198) rfl rfl (XS.iloadN X101.here hx rfl (hb hby at_199) rfl (own_aaload X101 hx hZ e101 f101 (6 : Int32) (.ref r_UNTYPED_ATOMIC) ⟨by decide, by decide⟩ rfl rfl rfl rfl (hb hby at_200) (XS.aloadN X101.here hx rfl (hb hby at_201) rfl rfl hr))))))) ?_
      show own_Go p e below _ (T101.setTop (mkF m 202 #[.val (.int x0), .val (.int x1), .val (.ref b1), .val (.int (6 : Int32)), .val (.int jj), .val (.int (1 : Int32))] [(.ref b1), (.ref r_UNTYPED_ATOMIC)]))
      obtain ⟨t, ht, Ft, hjb⟩ : ∃ t, ([(.ref r_DOUBLE), (.ref r_FLOAT), (.ref r_DECIMAL), (.ref r_INTEGER), (.ref r_STRING), (.ref r_ANY_URI), (.ref r_UNTYPED_ATOMIC), (.ref r_BOOLEAN), (.ref r_DATE_TIME), (.ref r_DATE), (.ref r_TIME), (.ref r_YEAR_MONTH_DURATION), (.ref r_DAY_TIME_DURATION), (.ref r_DURATION), (.ref r_G_YEAR_MONTH), (.ref r_G_YEAR), (.ref r_G_MONTH_DAY), (.ref r_G_DAY), (.ref r_G_MONTH), (.ref r_QNAME)] : List Value).getD jj.toNatClampNeg .null = .ref t ∧ Fld Z h0 t "java/lang/Enum" "ordinal" "I" (.int jj) ∧ (¬ jj < 0 ∧ jj < 20) := by
        rcases hj20 with q | q | q | q | q | q | q | q | q | q | q | q | q | q | q | q | q | q | q | q
        · subst q; exact ⟨r_DOUBLE, rfl, F_DOUBLE_ordinal, by decide, by decide⟩
        · subst q; exact ⟨r_FLOAT, rfl, F_FLOAT_ordinal, by decide, by decide⟩
        · subst q; exact ⟨r_DECIMAL, rfl, F_DECIMAL_ordinal, by decide, by decide⟩
        · subst q; exact ⟨r_INTEGER, rfl, F_INTEGER_ordinal, by decide, by decide⟩
        · subst q; exact ⟨r_STRING, rfl, F_STRING_ordinal, by decide, by decide⟩
        · subst q; exact ⟨r_ANY_URI, rfl, F_ANY_URI_ordinal, by decide, by decide⟩
        · subst q; exact ⟨r_UNTYPED_ATOMIC, rfl, F_UNTYPED_ATOMIC_ordinal, by decide, by decide⟩
        · subst q; exact ⟨r_BOOLEAN, rfl, F_BOOLEAN_ordinal, by decide, by decide⟩
        · subst q; exact ⟨r_DATE_TIME, rfl, F_DATE_TIME_ordinal, by decide, by decide⟩
        · subst q; exact ⟨r_DATE, rfl, F_DATE_ordinal, by decide, by decide⟩
        · subst q; exact ⟨r_TIME, rfl, F_TIME_ordinal, by decide, by decide⟩
        · subst q; exact ⟨r_YEAR_MONTH_DURATION, rfl, F_YEAR_MONTH_DURATION_ordinal, by decide, by decide⟩
        · subst q; exact ⟨r_DAY_TIME_DURATION, rfl, F_DAY_TIME_DURATION_ordinal, by decide, by decide⟩
        · subst q; exact ⟨r_DURATION, rfl, F_DURATION_ordinal, by decide, by decide⟩
        · subst q; exact ⟨r_G_YEAR_MONTH, rfl, F_G_YEAR_MONTH_ordinal, by decide, by decide⟩
        · subst q; exact ⟨r_G_YEAR, rfl, F_G_YEAR_ordinal, by decide, by decide⟩
        · subst q; exact ⟨r_G_MONTH_DAY, rfl, F_G_MONTH_DAY_ordinal, by decide, by decide⟩
        · subst q; exact ⟨r_G_DAY, rfl, F_G_DAY_ordinal, by decide, by decide⟩
        · subst q; exact ⟨r_G_MONTH, rfl, F_G_MONTH_ordinal, by decide, by decide⟩
        · subst q; exact ⟨r_QNAME, rfl, F_QNAME_ordinal, by decide, by decide⟩
      have H_UNTYPED_ATOMIC : r_UNTYPED_ATOMIC = t ↔ jj = (6 : Int32) := ⟨fun q => Value.int.inj (own_fld_eq Ft (q ▸ F_UNTYPED_ATOMIC_ordinal)), fun q => by subst q; exact Value.ref.inj ht⟩
      have H_STRING : r_STRING = t ↔ jj = (4 : Int32) := ⟨fun q => Value.int.inj (own_fld_eq Ft (q ▸ F_STRING_ordinal)), fun q => by subst q; exact Value.ref.inj ht⟩
      refine own_go (fun _ hr => XS.iload X101.here hx rfl (hb hby at_202) rfl (own_aaload X101 hx hZ e101 f101 jj (.ref t) hjb ht rfl rfl rfl (hb hby at_204) hr)) ?_
      show own_Go p e below _ (T101.setTop (mkF m 205 #[.val (.int x0), .val (.int x1), .val (.ref b1), .val (.int (6 : Int32)), .val (.int jj), .val (.int (1 : Int32))] [(.ref t), (.ref r_UNTYPED_ATOMIC)]))
      have K242 := (K98.wr W101 (Or.inr sz3))
      have f243 := (F_UNTYPED_ATOMIC_promotion.keep K242 nin0)
      have f244 := (F_STRING_promotion.keep K242 nin0)
      have Z245 := (Nat.le_trans (Nat.le_trans (Nat.le_trans (Nat.le_trans (Nat.le_trans (Nat.le_trans (Nat.le_trans (Nat.le_trans (Nat.le_trans (Nat.le_trans (Nat.le_trans (Nat.le_trans (Nat.le_trans (Nat.le_trans (Nat.le_trans (Nat.le_trans (Nat.le_trans (Nat.le_trans (Nat.le_trans (Nat.le_trans (Nat.le_trans Z0 E1.1) (Nat.le_of_eq W7.size.symm)) (Nat.le_of_eq W11.size.symm)) (Nat.le_of_eq W16.size.symm)) (Nat.le_of_eq W21.size.symm)) (Nat.le_of_eq W26.size.symm)) (Nat.le_of_eq W31.size.symm)) (Nat.le_of_eq W36.size.symm)) (Nat.le_of_eq W41.size.symm)) (Nat.le_of_eq W46.size.symm)) (Nat.le_of_eq W51.size.symm)) (Nat.le_of_eq W56.size.symm)) (Nat.le_of_eq W61.size.symm)) (Nat.le_of_eq W66.size.symm)) (Nat.le_of_eq W71.size.symm)) (Nat.le_of_eq W76.size.symm)) (Nat.le_of_eq W81.size.symm)) (Nat.le_of_eq W86.size.symm)) (Nat.le_of_eq W91.size.symm)) (Nat.le_of_eq W96.size.symm)) (Nat.le_of_eq W101.size.symm))
      have f246 := ((((((((((((((f37.wr W36).wr W41).wr W46).wr W51).wr W56).wr W61).wr W66).wr W71).wr W76).wr W81).wr W86).wr W91).wr W96).wr W101)
      refine own_cv X101 hx hZ hown (notFace_of_selects (args := #[]) (mvT hZ (hw _ (own_m 48 rfl)))) (hw _ (own_m 45 rfl)) (hw _ (own_m 46 rfl)) (hw _ (own_m 48 rfl)) (hw _ (own_m 47 rfl)) (hw _ (own_m 3 rfl)) (hw _ (own_m 49 rfl)) (by decide) f246 (rm := { frames := 0, cells := 0, slots := 0, locals := 0 }) (rm_pr6 l Z a0 hw [] r_UNTYPED_ATOMIC r_STRING t jj h101 n0 Z245 f243 f244 H_UNTYPED_ATOMIC H_STRING) (by decide) (W := 0) (by decide) (by decide) (by decide) e101 (by rw [hml]; rfl) (argsL := [(.ref t)]) (lenOf own_pd0 rfl) (rest := []) rfl rfl (Nat.le_of_eq rfl) (hb hby at_205) ?_
      intro _ T241 L241 X241 hQ241
      obtain ⟨rfl, N241q, e241⟩ := hQ241
      have N241 := Fr.app N101 N241q
      show own_Go p e below _ (T241.setTop (mkF m 208 #[.val (.int x0), .val (.int x1), .val (.ref b1), .val (.int (6 : Int32)), .val (.int jj), .val (.int (1 : Int32))] [(.int (own_p6 jj))]))
      refine own_go (fun _ hr => XS.iload X241.here hx rfl (hb hby at_208) rfl hr) ?_
      show own_Go p e below _ (T241.setTop (mkF m 210 #[.val (.int x0), .val (.int x1), .val (.ref b1), .val (.int (6 : Int32)), .val (.int jj), .val (.int (1 : Int32))] [(.int (1 : Int32)), (.int (own_p6 jj))]))
      have c247 : (own_p6 jj) = (1 : Int32) := by
                        have q := hj20
                        have p0 := c240
                        clear hj20 ht Ft hjb
                        simp only [Int32.lt_iff_toInt_lt, ← Int32.toInt_inj, Int32.reduceToInt] at p0
                        rcases q with q | q | q | q | q | q | q | q | q | q | q | q | q | q | q | q | q | q | q | q <;> subst q <;> first | decide | (exfalso; revert p0; decide)
      refine own_go (fun _ hr => XS.icmpNo X241.here hx rfl (hb hby at_210) rfl (teq c247).2 hr) ?_
      show own_Go p e below _ (T241.setTop (mkF m 213 #[.val (.int x0), .val (.int x1), .val (.ref b1), .val (.int (6 : Int32)), .val (.int jj), .val (.int (1 : Int32))] []))
      refine own_go (fun _ hr => XS.iconst X241.here hx rfl (hb hby at_213) (XS.goto X241.here hx rfl (pc0 := 214) (pc' := 218) rfl (hb hby at_214) (by decide) (by decide) hr)) ?_
      show own_Go p e below _ (T241.setTop (mkF m 218 #[.val (.int x0), .val (.int x1), .val (.ref b1), .val (.int (6 : Int32)), .val (.int jj), .val (.int (1 : Int32))] [(.int (1 : Int32))]))
      exact own_retN X241 hx hlk Bd.returns (t := .boolean) (by simp) (hb hby at_218) (by decide) (by decide) ⟨rfl, N241⟩
    refine own_go (fun _ hr => XS.icmpNo X101.here hx rfl (hb hby at_160) rfl (feq c240).1 hr) ?_
    show own_Go p e below _ (T101.setTop (mkF m 163 #[.val (.int x0), .val (.int x1), .val (.ref b1), .val (.int (6 : Int32)), .val (.int jj), .unset] []))
    refine own_go (fun _ hr => XS.iloadN X101.here hx rfl (hb hby at_163) rfl (XS.iconst X101.here hx rfl (hb hby at_164) (XS.icmpYes X101.here hx rfl (pc0 := 165) (pc' := 174) rfl (hb hby at_165) rfl (tlt (by decide)).2.2.1 (by decide) (by decide) (XS.iloadN X101.here hx rfl (hb hby at_174) rfl (XS.iconst X101.here hx rfl (hb hby at_175) (XS.icmpNo X101.here hx rfl (hb hby at_176) rfl (feq (by decide)).1 (XS.iloadN X101.here hx rfl (hb hby at_179) rfl (XS.bipush X101.here hx rfl (hb hby at_180) (XS.icmpNo X101.here hx rfl (hb hby at_182) rfl (teq (by decide)).2 (XS.iload X101.here hx rfl (hb hby at_185) rfl hr)))))))))) ?_
    show own_Go p e below _ (T101.setTop (mkF m 187 #[.val (.int x0), .val (.int x1), .val (.ref b1), .val (.int (6 : Int32)), .val (.int jj), .unset] [(.int jj)]))
    refine own_go (fun _ hr => XS.iconst X101.here hx rfl (hb hby at_187) hr) ?_
    show own_Go p e below _ (T101.setTop (mkF m 188 #[.val (.int x0), .val (.int x1), .val (.ref b1), .val (.int (6 : Int32)), .val (.int jj), .unset] [(.int (4 : Int32)), (.int jj)]))
    by_cases c248 : jj = (4 : Int32)
    · refine own_go (fun _ hr => XS.icmpNo X101.here hx rfl (hb hby at_188) rfl (teq c248).2 hr) ?_
      show own_Go p e below _ (T101.setTop (mkF m 191 #[.val (.int x0), .val (.int x1), .val (.ref b1), .val (.int (6 : Int32)), .val (.int jj), .unset] []))
      refine own_go (fun _ hr => XS.iconst X101.here hx rfl (hb hby at_191) (XS.goto X101.here hx rfl (pc0 := 192) (pc' := 196) rfl (hb hby at_192) (by decide) (by decide) (XS.istore X101.here hx rfl (hb hby at_196) rfl (l' := #[.val (.int x0), .val (.int x1), .val (.ref b1), .val (.int (6 : Int32)), .val (.int jj), .val (.int (1 : Int32))]) rfl (XS.aloadN X101.here hx rfl (hb hby at_198) rfl rfl (XS.iloadN X101.here hx rfl (hb hby at_199) rfl (own_aaload X101 hx hZ e101 f101 (6 : Int32) (.ref r_UNTYPED_ATOMIC) ⟨by decide, by decide⟩ rfl rfl rfl rfl (hb hby at_200) (XS.aloadN X101.here hx rfl (hb hby at_201) rfl rfl hr))))))) ?_
      show own_Go p e below _ (T101.setTop (mkF m 202 #[.val (.int x0), .val (.int x1), .val (.ref b1), .val (.int (6 : Int32)), .val (.int jj), .val (.int (1 : Int32))] [(.ref b1), (.ref r_UNTYPED_ATOMIC)]))
      obtain ⟨t, ht, Ft, hjb⟩ : ∃ t, ([(.ref r_DOUBLE), (.ref r_FLOAT), (.ref r_DECIMAL), (.ref r_INTEGER), (.ref r_STRING), (.ref r_ANY_URI), (.ref r_UNTYPED_ATOMIC), (.ref r_BOOLEAN), (.ref r_DATE_TIME), (.ref r_DATE), (.ref r_TIME), (.ref r_YEAR_MONTH_DURATION), (.ref r_DAY_TIME_DURATION), (.ref r_DURATION), (.ref r_G_YEAR_MONTH), (.ref r_G_YEAR), (.ref r_G_MONTH_DAY), (.ref r_G_DAY), (.ref r_G_MONTH), (.ref r_QNAME)] : List Value).getD jj.toNatClampNeg .null = .ref t ∧ Fld Z h0 t "java/lang/Enum" "ordinal" "I" (.int jj) ∧ (¬ jj < 0 ∧ jj < 20) := by
        rcases hj20 with q | q | q | q | q | q | q | q | q | q | q | q | q | q | q | q | q | q | q | q
        · subst q; exact ⟨r_DOUBLE, rfl, F_DOUBLE_ordinal, by decide, by decide⟩
        · subst q; exact ⟨r_FLOAT, rfl, F_FLOAT_ordinal, by decide, by decide⟩
        · subst q; exact ⟨r_DECIMAL, rfl, F_DECIMAL_ordinal, by decide, by decide⟩
        · subst q; exact ⟨r_INTEGER, rfl, F_INTEGER_ordinal, by decide, by decide⟩
        · subst q; exact ⟨r_STRING, rfl, F_STRING_ordinal, by decide, by decide⟩
        · subst q; exact ⟨r_ANY_URI, rfl, F_ANY_URI_ordinal, by decide, by decide⟩
        · subst q; exact ⟨r_UNTYPED_ATOMIC, rfl, F_UNTYPED_ATOMIC_ordinal, by decide, by decide⟩
        · subst q; exact ⟨r_BOOLEAN, rfl, F_BOOLEAN_ordinal, by decide, by decide⟩
        · subst q; exact ⟨r_DATE_TIME, rfl, F_DATE_TIME_ordinal, by decide, by decide⟩
        · subst q; exact ⟨r_DATE, rfl, F_DATE_ordinal, by decide, by decide⟩
        · subst q; exact ⟨r_TIME, rfl, F_TIME_ordinal, by decide, by decide⟩
        · subst q; exact ⟨r_YEAR_MONTH_DURATION, rfl, F_YEAR_MONTH_DURATION_ordinal, by decide, by decide⟩
        · subst q; exact ⟨r_DAY_TIME_DURATION, rfl, F_DAY_TIME_DURATION_ordinal, by decide, by decide⟩
        · subst q; exact ⟨r_DURATION, rfl, F_DURATION_ordinal, by decide, by decide⟩
        · subst q; exact ⟨r_G_YEAR_MONTH, rfl, F_G_YEAR_MONTH_ordinal, by decide, by decide⟩
        · subst q; exact ⟨r_G_YEAR, rfl, F_G_YEAR_ordinal, by decide, by decide⟩
        · subst q; exact ⟨r_G_MONTH_DAY, rfl, F_G_MONTH_DAY_ordinal, by decide, by decide⟩
        · subst q; exact ⟨r_G_DAY, rfl, F_G_DAY_ordinal, by decide, by decide⟩
        · subst q; exact ⟨r_G_MONTH, rfl, F_G_MONTH_ordinal, by decide, by decide⟩
        · subst q; exact ⟨r_QNAME, rfl, F_QNAME_ordinal, by decide, by decide⟩
      have H_UNTYPED_ATOMIC : r_UNTYPED_ATOMIC = t ↔ jj = (6 : Int32) := ⟨fun q => Value.int.inj (own_fld_eq Ft (q ▸ F_UNTYPED_ATOMIC_ordinal)), fun q => by subst q; exact Value.ref.inj ht⟩
      have H_STRING : r_STRING = t ↔ jj = (4 : Int32) := ⟨fun q => Value.int.inj (own_fld_eq Ft (q ▸ F_STRING_ordinal)), fun q => by subst q; exact Value.ref.inj ht⟩
      refine own_go (fun _ hr => XS.iload X101.here hx rfl (hb hby at_202) rfl (own_aaload X101 hx hZ e101 f101 jj (.ref t) hjb ht rfl rfl rfl (hb hby at_204) hr)) ?_
      show own_Go p e below _ (T101.setTop (mkF m 205 #[.val (.int x0), .val (.int x1), .val (.ref b1), .val (.int (6 : Int32)), .val (.int jj), .val (.int (1 : Int32))] [(.ref t), (.ref r_UNTYPED_ATOMIC)]))
      have K250 := (K98.wr W101 (Or.inr sz3))
      have f251 := (F_UNTYPED_ATOMIC_promotion.keep K250 nin0)
      have f252 := (F_STRING_promotion.keep K250 nin0)
      have Z253 := (Nat.le_trans (Nat.le_trans (Nat.le_trans (Nat.le_trans (Nat.le_trans (Nat.le_trans (Nat.le_trans (Nat.le_trans (Nat.le_trans (Nat.le_trans (Nat.le_trans (Nat.le_trans (Nat.le_trans (Nat.le_trans (Nat.le_trans (Nat.le_trans (Nat.le_trans (Nat.le_trans (Nat.le_trans (Nat.le_trans (Nat.le_trans Z0 E1.1) (Nat.le_of_eq W7.size.symm)) (Nat.le_of_eq W11.size.symm)) (Nat.le_of_eq W16.size.symm)) (Nat.le_of_eq W21.size.symm)) (Nat.le_of_eq W26.size.symm)) (Nat.le_of_eq W31.size.symm)) (Nat.le_of_eq W36.size.symm)) (Nat.le_of_eq W41.size.symm)) (Nat.le_of_eq W46.size.symm)) (Nat.le_of_eq W51.size.symm)) (Nat.le_of_eq W56.size.symm)) (Nat.le_of_eq W61.size.symm)) (Nat.le_of_eq W66.size.symm)) (Nat.le_of_eq W71.size.symm)) (Nat.le_of_eq W76.size.symm)) (Nat.le_of_eq W81.size.symm)) (Nat.le_of_eq W86.size.symm)) (Nat.le_of_eq W91.size.symm)) (Nat.le_of_eq W96.size.symm)) (Nat.le_of_eq W101.size.symm))
      have f254 := ((((((((((((((f37.wr W36).wr W41).wr W46).wr W51).wr W56).wr W61).wr W66).wr W71).wr W76).wr W81).wr W86).wr W91).wr W96).wr W101)
      refine own_cv X101 hx hZ hown (notFace_of_selects (args := #[]) (mvT hZ (hw _ (own_m 48 rfl)))) (hw _ (own_m 45 rfl)) (hw _ (own_m 46 rfl)) (hw _ (own_m 48 rfl)) (hw _ (own_m 47 rfl)) (hw _ (own_m 3 rfl)) (hw _ (own_m 49 rfl)) (by decide) f254 (rm := { frames := 0, cells := 0, slots := 0, locals := 0 }) (rm_pr6 l Z a0 hw [] r_UNTYPED_ATOMIC r_STRING t jj h101 n0 Z253 f251 f252 H_UNTYPED_ATOMIC H_STRING) (by decide) (W := 0) (by decide) (by decide) (by decide) e101 (by rw [hml]; rfl) (argsL := [(.ref t)]) (lenOf own_pd0 rfl) (rest := []) rfl rfl (Nat.le_of_eq rfl) (hb hby at_205) ?_
      intro _ T249 L249 X249 hQ249
      obtain ⟨rfl, N249q, e249⟩ := hQ249
      have N249 := Fr.app N101 N249q
      show own_Go p e below _ (T249.setTop (mkF m 208 #[.val (.int x0), .val (.int x1), .val (.ref b1), .val (.int (6 : Int32)), .val (.int jj), .val (.int (1 : Int32))] [(.int (own_p6 jj))]))
      refine own_go (fun _ hr => XS.iload X249.here hx rfl (hb hby at_208) rfl hr) ?_
      show own_Go p e below _ (T249.setTop (mkF m 210 #[.val (.int x0), .val (.int x1), .val (.ref b1), .val (.int (6 : Int32)), .val (.int jj), .val (.int (1 : Int32))] [(.int (1 : Int32)), (.int (own_p6 jj))]))
      have c255 : (own_p6 jj) = (1 : Int32) := by
                        have q := hj20
                        have p0 := c240
                        have p1 := c248
                        clear hj20 ht Ft hjb
                        simp only [Int32.lt_iff_toInt_lt, ← Int32.toInt_inj, Int32.reduceToInt] at p0 p1
                        rcases q with q | q | q | q | q | q | q | q | q | q | q | q | q | q | q | q | q | q | q | q <;> subst q <;> first | decide | (exfalso; revert p0 p1; decide)
      refine own_go (fun _ hr => XS.icmpNo X249.here hx rfl (hb hby at_210) rfl (teq c255).2 hr) ?_
      show own_Go p e below _ (T249.setTop (mkF m 213 #[.val (.int x0), .val (.int x1), .val (.ref b1), .val (.int (6 : Int32)), .val (.int jj), .val (.int (1 : Int32))] []))
      refine own_go (fun _ hr => XS.iconst X249.here hx rfl (hb hby at_213) (XS.goto X249.here hx rfl (pc0 := 214) (pc' := 218) rfl (hb hby at_214) (by decide) (by decide) hr)) ?_
      show own_Go p e below _ (T249.setTop (mkF m 218 #[.val (.int x0), .val (.int x1), .val (.ref b1), .val (.int (6 : Int32)), .val (.int jj), .val (.int (1 : Int32))] [(.int (1 : Int32))]))
      exact own_retN X249 hx hlk Bd.returns (t := .boolean) (by simp) (hb hby at_218) (by decide) (by decide) ⟨rfl, N249⟩
    refine own_go (fun _ hr => XS.icmpYes X101.here hx rfl (pc0 := 188) (pc' := 195) rfl (hb hby at_188) rfl (feq c248).2 (by decide) (by decide) hr) ?_
    show own_Go p e below _ (T101.setTop (mkF m 195 #[.val (.int x0), .val (.int x1), .val (.ref b1), .val (.int (6 : Int32)), .val (.int jj), .unset] []))
    refine own_go (fun _ hr => XS.iconst X101.here hx rfl (hb hby at_195) (XS.istore X101.here hx rfl (hb hby at_196) rfl (l' := #[.val (.int x0), .val (.int x1), .val (.ref b1), .val (.int (6 : Int32)), .val (.int jj), .val (.int (0 : Int32))]) rfl (XS.aloadN X101.here hx rfl (hb hby at_198) rfl rfl (XS.iloadN X101.here hx rfl (hb hby at_199) rfl (own_aaload X101 hx hZ e101 f101 (6 : Int32) (.ref r_UNTYPED_ATOMIC) ⟨by decide, by decide⟩ rfl rfl rfl rfl (hb hby at_200) (XS.aloadN X101.here hx rfl (hb hby at_201) rfl rfl hr)))))) ?_
    show own_Go p e below _ (T101.setTop (mkF m 202 #[.val (.int x0), .val (.int x1), .val (.ref b1), .val (.int (6 : Int32)), .val (.int jj), .val (.int (0 : Int32))] [(.ref b1), (.ref r_UNTYPED_ATOMIC)]))
    obtain ⟨t, ht, Ft, hjb⟩ : ∃ t, ([(.ref r_DOUBLE), (.ref r_FLOAT), (.ref r_DECIMAL), (.ref r_INTEGER), (.ref r_STRING), (.ref r_ANY_URI), (.ref r_UNTYPED_ATOMIC), (.ref r_BOOLEAN), (.ref r_DATE_TIME), (.ref r_DATE), (.ref r_TIME), (.ref r_YEAR_MONTH_DURATION), (.ref r_DAY_TIME_DURATION), (.ref r_DURATION), (.ref r_G_YEAR_MONTH), (.ref r_G_YEAR), (.ref r_G_MONTH_DAY), (.ref r_G_DAY), (.ref r_G_MONTH), (.ref r_QNAME)] : List Value).getD jj.toNatClampNeg .null = .ref t ∧ Fld Z h0 t "java/lang/Enum" "ordinal" "I" (.int jj) ∧ (¬ jj < 0 ∧ jj < 20) := by
      rcases hj20 with q | q | q | q | q | q | q | q | q | q | q | q | q | q | q | q | q | q | q | q
      · subst q; exact ⟨r_DOUBLE, rfl, F_DOUBLE_ordinal, by decide, by decide⟩
      · subst q; exact ⟨r_FLOAT, rfl, F_FLOAT_ordinal, by decide, by decide⟩
      · subst q; exact ⟨r_DECIMAL, rfl, F_DECIMAL_ordinal, by decide, by decide⟩
      · subst q; exact ⟨r_INTEGER, rfl, F_INTEGER_ordinal, by decide, by decide⟩
      · subst q; exact ⟨r_STRING, rfl, F_STRING_ordinal, by decide, by decide⟩
      · subst q; exact ⟨r_ANY_URI, rfl, F_ANY_URI_ordinal, by decide, by decide⟩
      · subst q; exact ⟨r_UNTYPED_ATOMIC, rfl, F_UNTYPED_ATOMIC_ordinal, by decide, by decide⟩
      · subst q; exact ⟨r_BOOLEAN, rfl, F_BOOLEAN_ordinal, by decide, by decide⟩
      · subst q; exact ⟨r_DATE_TIME, rfl, F_DATE_TIME_ordinal, by decide, by decide⟩
      · subst q; exact ⟨r_DATE, rfl, F_DATE_ordinal, by decide, by decide⟩
      · subst q; exact ⟨r_TIME, rfl, F_TIME_ordinal, by decide, by decide⟩
      · subst q; exact ⟨r_YEAR_MONTH_DURATION, rfl, F_YEAR_MONTH_DURATION_ordinal, by decide, by decide⟩
      · subst q; exact ⟨r_DAY_TIME_DURATION, rfl, F_DAY_TIME_DURATION_ordinal, by decide, by decide⟩
      · subst q; exact ⟨r_DURATION, rfl, F_DURATION_ordinal, by decide, by decide⟩
      · subst q; exact ⟨r_G_YEAR_MONTH, rfl, F_G_YEAR_MONTH_ordinal, by decide, by decide⟩
      · subst q; exact ⟨r_G_YEAR, rfl, F_G_YEAR_ordinal, by decide, by decide⟩
      · subst q; exact ⟨r_G_MONTH_DAY, rfl, F_G_MONTH_DAY_ordinal, by decide, by decide⟩
      · subst q; exact ⟨r_G_DAY, rfl, F_G_DAY_ordinal, by decide, by decide⟩
      · subst q; exact ⟨r_G_MONTH, rfl, F_G_MONTH_ordinal, by decide, by decide⟩
      · subst q; exact ⟨r_QNAME, rfl, F_QNAME_ordinal, by decide, by decide⟩
    have H_UNTYPED_ATOMIC : r_UNTYPED_ATOMIC = t ↔ jj = (6 : Int32) := ⟨fun q => Value.int.inj (own_fld_eq Ft (q ▸ F_UNTYPED_ATOMIC_ordinal)), fun q => by subst q; exact Value.ref.inj ht⟩
    have H_STRING : r_STRING = t ↔ jj = (4 : Int32) := ⟨fun q => Value.int.inj (own_fld_eq Ft (q ▸ F_STRING_ordinal)), fun q => by subst q; exact Value.ref.inj ht⟩
    refine own_go (fun _ hr => XS.iload X101.here hx rfl (hb hby at_202) rfl (own_aaload X101 hx hZ e101 f101 jj (.ref t) hjb ht rfl rfl rfl (hb hby at_204) hr)) ?_
    show own_Go p e below _ (T101.setTop (mkF m 205 #[.val (.int x0), .val (.int x1), .val (.ref b1), .val (.int (6 : Int32)), .val (.int jj), .val (.int (0 : Int32))] [(.ref t), (.ref r_UNTYPED_ATOMIC)]))
    have K257 := (K98.wr W101 (Or.inr sz3))
    have f258 := (F_UNTYPED_ATOMIC_promotion.keep K257 nin0)
    have f259 := (F_STRING_promotion.keep K257 nin0)
    have Z260 := (Nat.le_trans (Nat.le_trans (Nat.le_trans (Nat.le_trans (Nat.le_trans (Nat.le_trans (Nat.le_trans (Nat.le_trans (Nat.le_trans (Nat.le_trans (Nat.le_trans (Nat.le_trans (Nat.le_trans (Nat.le_trans (Nat.le_trans (Nat.le_trans (Nat.le_trans (Nat.le_trans (Nat.le_trans (Nat.le_trans (Nat.le_trans Z0 E1.1) (Nat.le_of_eq W7.size.symm)) (Nat.le_of_eq W11.size.symm)) (Nat.le_of_eq W16.size.symm)) (Nat.le_of_eq W21.size.symm)) (Nat.le_of_eq W26.size.symm)) (Nat.le_of_eq W31.size.symm)) (Nat.le_of_eq W36.size.symm)) (Nat.le_of_eq W41.size.symm)) (Nat.le_of_eq W46.size.symm)) (Nat.le_of_eq W51.size.symm)) (Nat.le_of_eq W56.size.symm)) (Nat.le_of_eq W61.size.symm)) (Nat.le_of_eq W66.size.symm)) (Nat.le_of_eq W71.size.symm)) (Nat.le_of_eq W76.size.symm)) (Nat.le_of_eq W81.size.symm)) (Nat.le_of_eq W86.size.symm)) (Nat.le_of_eq W91.size.symm)) (Nat.le_of_eq W96.size.symm)) (Nat.le_of_eq W101.size.symm))
    have f261 := ((((((((((((((f37.wr W36).wr W41).wr W46).wr W51).wr W56).wr W61).wr W66).wr W71).wr W76).wr W81).wr W86).wr W91).wr W96).wr W101)
    refine own_cv X101 hx hZ hown (notFace_of_selects (args := #[]) (mvT hZ (hw _ (own_m 48 rfl)))) (hw _ (own_m 45 rfl)) (hw _ (own_m 46 rfl)) (hw _ (own_m 48 rfl)) (hw _ (own_m 47 rfl)) (hw _ (own_m 3 rfl)) (hw _ (own_m 49 rfl)) (by decide) f261 (rm := { frames := 0, cells := 0, slots := 0, locals := 0 }) (rm_pr6 l Z a0 hw [] r_UNTYPED_ATOMIC r_STRING t jj h101 n0 Z260 f258 f259 H_UNTYPED_ATOMIC H_STRING) (by decide) (W := 0) (by decide) (by decide) (by decide) e101 (by rw [hml]; rfl) (argsL := [(.ref t)]) (lenOf own_pd0 rfl) (rest := []) rfl rfl (Nat.le_of_eq rfl) (hb hby at_205) ?_
    intro _ T256 L256 X256 hQ256
    obtain ⟨rfl, N256q, e256⟩ := hQ256
    have N256 := Fr.app N101 N256q
    show own_Go p e below _ (T256.setTop (mkF m 208 #[.val (.int x0), .val (.int x1), .val (.ref b1), .val (.int (6 : Int32)), .val (.int jj), .val (.int (0 : Int32))] [(.int (own_p6 jj))]))
    refine own_go (fun _ hr => XS.iload X256.here hx rfl (hb hby at_208) rfl hr) ?_
    show own_Go p e below _ (T256.setTop (mkF m 210 #[.val (.int x0), .val (.int x1), .val (.ref b1), .val (.int (6 : Int32)), .val (.int jj), .val (.int (0 : Int32))] [(.int (0 : Int32)), (.int (own_p6 jj))]))
    have c262 : (own_p6 jj) = (0 : Int32) := by
                        have q := hj20
                        have p0 := c240
                        have p1 := c248
                        clear hj20 ht Ft hjb
                        simp only [Int32.lt_iff_toInt_lt, ← Int32.toInt_inj, Int32.reduceToInt] at p0 p1
                        rcases q with q | q | q | q | q | q | q | q | q | q | q | q | q | q | q | q | q | q | q | q <;> subst q <;> first | decide | (exfalso; revert p0 p1; decide)
    refine own_go (fun _ hr => XS.icmpNo X256.here hx rfl (hb hby at_210) rfl (teq c262).2 hr) ?_
    show own_Go p e below _ (T256.setTop (mkF m 213 #[.val (.int x0), .val (.int x1), .val (.ref b1), .val (.int (6 : Int32)), .val (.int jj), .val (.int (0 : Int32))] []))
    refine own_go (fun _ hr => XS.iconst X256.here hx rfl (hb hby at_213) (XS.goto X256.here hx rfl (pc0 := 214) (pc' := 218) rfl (hb hby at_214) (by decide) (by decide) hr)) ?_
    show own_Go p e below _ (T256.setTop (mkF m 218 #[.val (.int x0), .val (.int x1), .val (.ref b1), .val (.int (6 : Int32)), .val (.int jj), .val (.int (0 : Int32))] [(.int (1 : Int32))]))
    exact own_retN X256 hx hlk Bd.returns (t := .boolean) (by simp) (hb hby at_218) (by decide) (by decide) ⟨rfl, N256⟩
  · rw [hk105]
    show own_Go p e below _ (T101.setTop (mkF m 157 #[.val (.int x0), .val (.int x1), .val (.ref b1), .val (.int (7 : Int32)), .val (.int jj), .unset] []))
    refine own_go (fun _ hr => XS.iloadN X101.here hx rfl (hb hby at_157) rfl (XS.iload X101.here hx rfl (hb hby at_158) rfl hr)) ?_
    show own_Go p e below _ (T101.setTop (mkF m 160 #[.val (.int x0), .val (.int x1), .val (.ref b1), .val (.int (7 : Int32)), .val (.int jj), .unset] [(.int jj), (.int (7 : Int32))]))
    by_cases c263 : (7 : Int32) = jj
    · refine own_go (fun _ hr => XS.icmpYes X101.here hx rfl (pc0 := 160) (pc' := 191) rfl (hb hby at_160) rfl (teq c263).1 (by decide) (by decide) hr) ?_
      show own_Go p e below _ (T101.setTop (mkF m 191 #[.val (.int x0), .val (.int x1), .val (.ref b1), .val (.int (7 : Int32)), .val (.int jj), .unset] []))
      refine own_go (fun _ hr => XS.iconst X101.here hx rfl (hb hby at_191) (XS.goto X101.here hx rfl (pc0 := 192) (pc' := 196) rfl (hb hby at_192) (by decide) (by decide) (XS.istore X101.here hx rfl (hb hby at_196) rfl (l' := #[.val (.int x0), .val (.int x1), .val (.ref b1), .val (.int (7 : Int32)), .val (.int jj), .val (.int (1 : Int32))]) rfl (XS.aloadN X101.here hx rfl (hb hby at_198) rfl rfl (XS.iloadN X101.here hx rfl (hb hby at_199) rfl (own_aaload X101 hx hZ e101 f101 (7 : Int32) (.ref r_BOOLEAN) ⟨by decide, by decide⟩ rfl rfl rfl rfl (hb hby at_200) (XS.aloadN X101.here hx rfl (hb hby at_201) rfl rfl hr))))))) ?_
      show own_Go p e below _ (T101.setTop (mkF m 202 #[.val (.int x0), .val (.int x1), .val (.ref b1), .val (.int (7 : Int32)), .val (.int jj), .val (.int (1 : Int32))] [(.ref b1), (.ref r_BOOLEAN)]))
      obtain ⟨t, ht, Ft, hjb⟩ : ∃ t, ([(.ref r_DOUBLE), (.ref r_FLOAT), (.ref r_DECIMAL), (.ref r_INTEGER), (.ref r_STRING), (.ref r_ANY_URI), (.ref r_UNTYPED_ATOMIC), (.ref r_BOOLEAN), (.ref r_DATE_TIME), (.ref r_DATE), (.ref r_TIME), (.ref r_YEAR_MONTH_DURATION), (.ref r_DAY_TIME_DURATION), (.ref r_DURATION), (.ref r_G_YEAR_MONTH), (.ref r_G_YEAR), (.ref r_G_MONTH_DAY), (.ref r_G_DAY), (.ref r_G_MONTH), (.ref r_QNAME)] : List Value).getD jj.toNatClampNeg .null = .ref t ∧ Fld Z h0 t "java/lang/Enum" "ordinal" "I" (.int jj) ∧ (¬ jj < 0 ∧ jj < 20) := by
        rcases hj20 with q | q | q | q | q | q | q | q | q | q | q | q | q | q | q | q | q | q | q | q
        · subst q; exact ⟨r_DOUBLE, rfl, F_DOUBLE_ordinal, by decide, by decide⟩
        · subst q; exact ⟨r_FLOAT, rfl, F_FLOAT_ordinal, by decide, by decide⟩
        · subst q; exact ⟨r_DECIMAL, rfl, F_DECIMAL_ordinal, by decide, by decide⟩
        · subst q; exact ⟨r_INTEGER, rfl, F_INTEGER_ordinal, by decide, by decide⟩
        · subst q; exact ⟨r_STRING, rfl, F_STRING_ordinal, by decide, by decide⟩
        · subst q; exact ⟨r_ANY_URI, rfl, F_ANY_URI_ordinal, by decide, by decide⟩
        · subst q; exact ⟨r_UNTYPED_ATOMIC, rfl, F_UNTYPED_ATOMIC_ordinal, by decide, by decide⟩
        · subst q; exact ⟨r_BOOLEAN, rfl, F_BOOLEAN_ordinal, by decide, by decide⟩
        · subst q; exact ⟨r_DATE_TIME, rfl, F_DATE_TIME_ordinal, by decide, by decide⟩
        · subst q; exact ⟨r_DATE, rfl, F_DATE_ordinal, by decide, by decide⟩
        · subst q; exact ⟨r_TIME, rfl, F_TIME_ordinal, by decide, by decide⟩
        · subst q; exact ⟨r_YEAR_MONTH_DURATION, rfl, F_YEAR_MONTH_DURATION_ordinal, by decide, by decide⟩
        · subst q; exact ⟨r_DAY_TIME_DURATION, rfl, F_DAY_TIME_DURATION_ordinal, by decide, by decide⟩
        · subst q; exact ⟨r_DURATION, rfl, F_DURATION_ordinal, by decide, by decide⟩
        · subst q; exact ⟨r_G_YEAR_MONTH, rfl, F_G_YEAR_MONTH_ordinal, by decide, by decide⟩
        · subst q; exact ⟨r_G_YEAR, rfl, F_G_YEAR_ordinal, by decide, by decide⟩
        · subst q; exact ⟨r_G_MONTH_DAY, rfl, F_G_MONTH_DAY_ordinal, by decide, by decide⟩
        · subst q; exact ⟨r_G_DAY, rfl, F_G_DAY_ordinal, by decide, by decide⟩
        · subst q; exact ⟨r_G_MONTH, rfl, F_G_MONTH_ordinal, by decide, by decide⟩
        · subst q; exact ⟨r_QNAME, rfl, F_QNAME_ordinal, by decide, by decide⟩
      have H_BOOLEAN : r_BOOLEAN = t ↔ jj = (7 : Int32) := ⟨fun q => Value.int.inj (own_fld_eq Ft (q ▸ F_BOOLEAN_ordinal)), fun q => by subst q; exact Value.ref.inj ht⟩
      refine own_go (fun _ hr => XS.iload X101.here hx rfl (hb hby at_202) rfl (own_aaload X101 hx hZ e101 f101 jj (.ref t) hjb ht rfl rfl rfl (hb hby at_204) hr)) ?_
      show own_Go p e below _ (T101.setTop (mkF m 205 #[.val (.int x0), .val (.int x1), .val (.ref b1), .val (.int (7 : Int32)), .val (.int jj), .val (.int (1 : Int32))] [(.ref t), (.ref r_BOOLEAN)]))
      have K265 := (K98.wr W101 (Or.inr sz3))
      have f266 := (F_BOOLEAN_promotion.keep K265 nin0)
      have Z267 := (Nat.le_trans (Nat.le_trans (Nat.le_trans (Nat.le_trans (Nat.le_trans (Nat.le_trans (Nat.le_trans (Nat.le_trans (Nat.le_trans (Nat.le_trans (Nat.le_trans (Nat.le_trans (Nat.le_trans (Nat.le_trans (Nat.le_trans (Nat.le_trans (Nat.le_trans (Nat.le_trans (Nat.le_trans (Nat.le_trans (Nat.le_trans Z0 E1.1) (Nat.le_of_eq W7.size.symm)) (Nat.le_of_eq W11.size.symm)) (Nat.le_of_eq W16.size.symm)) (Nat.le_of_eq W21.size.symm)) (Nat.le_of_eq W26.size.symm)) (Nat.le_of_eq W31.size.symm)) (Nat.le_of_eq W36.size.symm)) (Nat.le_of_eq W41.size.symm)) (Nat.le_of_eq W46.size.symm)) (Nat.le_of_eq W51.size.symm)) (Nat.le_of_eq W56.size.symm)) (Nat.le_of_eq W61.size.symm)) (Nat.le_of_eq W66.size.symm)) (Nat.le_of_eq W71.size.symm)) (Nat.le_of_eq W76.size.symm)) (Nat.le_of_eq W81.size.symm)) (Nat.le_of_eq W86.size.symm)) (Nat.le_of_eq W91.size.symm)) (Nat.le_of_eq W96.size.symm)) (Nat.le_of_eq W101.size.symm))
      have f268 := (((((((((((((f42.wr W41).wr W46).wr W51).wr W56).wr W61).wr W66).wr W71).wr W76).wr W81).wr W86).wr W91).wr W96).wr W101)
      refine own_cv X101 hx hZ hown (notFace_of_selects (args := #[]) (mvT hZ (hw _ (own_m 48 rfl)))) (hw _ (own_m 45 rfl)) (hw _ (own_m 46 rfl)) (hw _ (own_m 48 rfl)) (hw _ (own_m 47 rfl)) (hw _ (own_m 3 rfl)) (hw _ (own_m 49 rfl)) (by decide) f268 (rm := { frames := 0, cells := 0, slots := 0, locals := 0 }) (rm_pr7 l Z a0 hw [] r_BOOLEAN t jj h101 n0 Z267 f266 H_BOOLEAN) (by decide) (W := 0) (by decide) (by decide) (by decide) e101 (by rw [hml]; rfl) (argsL := [(.ref t)]) (lenOf own_pd0 rfl) (rest := []) rfl rfl (Nat.le_of_eq rfl) (hb hby at_205) ?_
      intro _ T264 L264 X264 hQ264
      obtain ⟨rfl, N264q, e264⟩ := hQ264
      have N264 := Fr.app N101 N264q
      show own_Go p e below _ (T264.setTop (mkF m 208 #[.val (.int x0), .val (.int x1), .val (.ref b1), .val (.int (7 : Int32)), .val (.int jj), .val (.int (1 : Int32))] [(.int (own_p7 jj))]))
      refine own_go (fun _ hr => XS.iload X264.here hx rfl (hb hby at_208) rfl hr) ?_
      show own_Go p e below _ (T264.setTop (mkF m 210 #[.val (.int x0), .val (.int x1), .val (.ref b1), .val (.int (7 : Int32)), .val (.int jj), .val (.int (1 : Int32))] [(.int (1 : Int32)), (.int (own_p7 jj))]))
      have c269 : (own_p7 jj) = (1 : Int32) := by
                        have q := hj20
                        have p0 := c263
                        clear hj20 ht Ft hjb
                        simp only [Int32.lt_iff_toInt_lt, ← Int32.toInt_inj, Int32.reduceToInt] at p0
                        rcases q with q | q | q | q | q | q | q | q | q | q | q | q | q | q | q | q | q | q | q | q <;> subst q <;> first | decide | (exfalso; revert p0; decide)
      refine own_go (fun _ hr => XS.icmpNo X264.here hx rfl (hb hby at_210) rfl (teq c269).2 hr) ?_
      show own_Go p e below _ (T264.setTop (mkF m 213 #[.val (.int x0), .val (.int x1), .val (.ref b1), .val (.int (7 : Int32)), .val (.int jj), .val (.int (1 : Int32))] []))
      refine own_go (fun _ hr => XS.iconst X264.here hx rfl (hb hby at_213) (XS.goto X264.here hx rfl (pc0 := 214) (pc' := 218) rfl (hb hby at_214) (by decide) (by decide) hr)) ?_
      show own_Go p e below _ (T264.setTop (mkF m 218 #[.val (.int x0), .val (.int x1), .val (.ref b1), .val (.int (7 : Int32)), .val (.int jj), .val (.int (1 : Int32))] [(.int (1 : Int32))]))
      exact own_retN X264 hx hlk Bd.returns (t := .boolean) (by simp) (hb hby at_218) (by decide) (by decide) ⟨rfl, N264⟩
    refine own_go (fun _ hr => XS.icmpNo X101.here hx rfl (hb hby at_160) rfl (feq c263).1 hr) ?_
    show own_Go p e below _ (T101.setTop (mkF m 163 #[.val (.int x0), .val (.int x1), .val (.ref b1), .val (.int (7 : Int32)), .val (.int jj), .unset] []))
    refine own_go (fun _ hr => XS.iloadN X101.here hx rfl (hb hby at_163) rfl (XS.iconst X101.here hx rfl (hb hby at_164) (XS.icmpYes X101.here hx rfl (pc0 := 165) (pc' := 174) rfl (hb hby at_165) rfl (tlt (by decide)).2.2.1 (by decide) (by decide) (XS.iloadN X101.here hx rfl (hb hby at_174) rfl (XS.iconst X101.here hx rfl (hb hby at_175) (XS.icmpNo X101.here hx rfl (hb hby at_176) rfl (feq (by decide)).1 (XS.iloadN X101.here hx rfl (hb hby at_179) rfl (XS.bipush X101.here hx rfl (hb hby at_180) (XS.icmpYes X101.here hx rfl (pc0 := 182) (pc' := 195) rfl (hb hby at_182) rfl (feq (by decide)).2 (by decide) (by decide) (XS.iconst X101.here hx rfl (hb hby at_195) hr)))))))))) ?_
    show own_Go p e below _ (T101.setTop (mkF m 196 #[.val (.int x0), .val (.int x1), .val (.ref b1), .val (.int (7 : Int32)), .val (.int jj), .unset] [(.int (0 : Int32))]))
    refine own_go (fun _ hr => XS.istore X101.here hx rfl (hb hby at_196) rfl (l' := #[.val (.int x0), .val (.int x1), .val (.ref b1), .val (.int (7 : Int32)), .val (.int jj), .val (.int (0 : Int32))]) rfl (XS.aloadN X101.here hx rfl (hb hby at_198) rfl rfl (XS.iloadN X101.here hx rfl (hb hby at_199) rfl (own_aaload X101 hx hZ e101 f101 (7 : Int32) (.ref r_BOOLEAN) ⟨by decide, by decide⟩ rfl rfl rfl rfl (hb hby at_200) (XS.aloadN X101.here hx rfl (hb hby at_201) rfl rfl hr))))) ?_
    show own_Go p e below _ (T101.setTop (mkF m 202 #[.val (.int x0), .val (.int x1), .val (.ref b1), .val (.int (7 : Int32)), .val (.int jj), .val (.int (0 : Int32))] [(.ref b1), (.ref r_BOOLEAN)]))
    obtain ⟨t, ht, Ft, hjb⟩ : ∃ t, ([(.ref r_DOUBLE), (.ref r_FLOAT), (.ref r_DECIMAL), (.ref r_INTEGER), (.ref r_STRING), (.ref r_ANY_URI), (.ref r_UNTYPED_ATOMIC), (.ref r_BOOLEAN), (.ref r_DATE_TIME), (.ref r_DATE), (.ref r_TIME), (.ref r_YEAR_MONTH_DURATION), (.ref r_DAY_TIME_DURATION), (.ref r_DURATION), (.ref r_G_YEAR_MONTH), (.ref r_G_YEAR), (.ref r_G_MONTH_DAY), (.ref r_G_DAY), (.ref r_G_MONTH), (.ref r_QNAME)] : List Value).getD jj.toNatClampNeg .null = .ref t ∧ Fld Z h0 t "java/lang/Enum" "ordinal" "I" (.int jj) ∧ (¬ jj < 0 ∧ jj < 20) := by
      rcases hj20 with q | q | q | q | q | q | q | q | q | q | q | q | q | q | q | q | q | q | q | q
      · subst q; exact ⟨r_DOUBLE, rfl, F_DOUBLE_ordinal, by decide, by decide⟩
      · subst q; exact ⟨r_FLOAT, rfl, F_FLOAT_ordinal, by decide, by decide⟩
      · subst q; exact ⟨r_DECIMAL, rfl, F_DECIMAL_ordinal, by decide, by decide⟩
      · subst q; exact ⟨r_INTEGER, rfl, F_INTEGER_ordinal, by decide, by decide⟩
      · subst q; exact ⟨r_STRING, rfl, F_STRING_ordinal, by decide, by decide⟩
      · subst q; exact ⟨r_ANY_URI, rfl, F_ANY_URI_ordinal, by decide, by decide⟩
      · subst q; exact ⟨r_UNTYPED_ATOMIC, rfl, F_UNTYPED_ATOMIC_ordinal, by decide, by decide⟩
      · subst q; exact ⟨r_BOOLEAN, rfl, F_BOOLEAN_ordinal, by decide, by decide⟩
      · subst q; exact ⟨r_DATE_TIME, rfl, F_DATE_TIME_ordinal, by decide, by decide⟩
      · subst q; exact ⟨r_DATE, rfl, F_DATE_ordinal, by decide, by decide⟩
      · subst q; exact ⟨r_TIME, rfl, F_TIME_ordinal, by decide, by decide⟩
      · subst q; exact ⟨r_YEAR_MONTH_DURATION, rfl, F_YEAR_MONTH_DURATION_ordinal, by decide, by decide⟩
      · subst q; exact ⟨r_DAY_TIME_DURATION, rfl, F_DAY_TIME_DURATION_ordinal, by decide, by decide⟩
      · subst q; exact ⟨r_DURATION, rfl, F_DURATION_ordinal, by decide, by decide⟩
      · subst q; exact ⟨r_G_YEAR_MONTH, rfl, F_G_YEAR_MONTH_ordinal, by decide, by decide⟩
      · subst q; exact ⟨r_G_YEAR, rfl, F_G_YEAR_ordinal, by decide, by decide⟩
      · subst q; exact ⟨r_G_MONTH_DAY, rfl, F_G_MONTH_DAY_ordinal, by decide, by decide⟩
      · subst q; exact ⟨r_G_DAY, rfl, F_G_DAY_ordinal, by decide, by decide⟩
      · subst q; exact ⟨r_G_MONTH, rfl, F_G_MONTH_ordinal, by decide, by decide⟩
      · subst q; exact ⟨r_QNAME, rfl, F_QNAME_ordinal, by decide, by decide⟩
    have H_BOOLEAN : r_BOOLEAN = t ↔ jj = (7 : Int32) := ⟨fun q => Value.int.inj (own_fld_eq Ft (q ▸ F_BOOLEAN_ordinal)), fun q => by subst q; exact Value.ref.inj ht⟩
    refine own_go (fun _ hr => XS.iload X101.here hx rfl (hb hby at_202) rfl (own_aaload X101 hx hZ e101 f101 jj (.ref t) hjb ht rfl rfl rfl (hb hby at_204) hr)) ?_
    show own_Go p e below _ (T101.setTop (mkF m 205 #[.val (.int x0), .val (.int x1), .val (.ref b1), .val (.int (7 : Int32)), .val (.int jj), .val (.int (0 : Int32))] [(.ref t), (.ref r_BOOLEAN)]))
    have K271 := (K98.wr W101 (Or.inr sz3))
    have f272 := (F_BOOLEAN_promotion.keep K271 nin0)
    have Z273 := (Nat.le_trans (Nat.le_trans (Nat.le_trans (Nat.le_trans (Nat.le_trans (Nat.le_trans (Nat.le_trans (Nat.le_trans (Nat.le_trans (Nat.le_trans (Nat.le_trans (Nat.le_trans (Nat.le_trans (Nat.le_trans (Nat.le_trans (Nat.le_trans (Nat.le_trans (Nat.le_trans (Nat.le_trans (Nat.le_trans (Nat.le_trans Z0 E1.1) (Nat.le_of_eq W7.size.symm)) (Nat.le_of_eq W11.size.symm)) (Nat.le_of_eq W16.size.symm)) (Nat.le_of_eq W21.size.symm)) (Nat.le_of_eq W26.size.symm)) (Nat.le_of_eq W31.size.symm)) (Nat.le_of_eq W36.size.symm)) (Nat.le_of_eq W41.size.symm)) (Nat.le_of_eq W46.size.symm)) (Nat.le_of_eq W51.size.symm)) (Nat.le_of_eq W56.size.symm)) (Nat.le_of_eq W61.size.symm)) (Nat.le_of_eq W66.size.symm)) (Nat.le_of_eq W71.size.symm)) (Nat.le_of_eq W76.size.symm)) (Nat.le_of_eq W81.size.symm)) (Nat.le_of_eq W86.size.symm)) (Nat.le_of_eq W91.size.symm)) (Nat.le_of_eq W96.size.symm)) (Nat.le_of_eq W101.size.symm))
    have f274 := (((((((((((((f42.wr W41).wr W46).wr W51).wr W56).wr W61).wr W66).wr W71).wr W76).wr W81).wr W86).wr W91).wr W96).wr W101)
    refine own_cv X101 hx hZ hown (notFace_of_selects (args := #[]) (mvT hZ (hw _ (own_m 48 rfl)))) (hw _ (own_m 45 rfl)) (hw _ (own_m 46 rfl)) (hw _ (own_m 48 rfl)) (hw _ (own_m 47 rfl)) (hw _ (own_m 3 rfl)) (hw _ (own_m 49 rfl)) (by decide) f274 (rm := { frames := 0, cells := 0, slots := 0, locals := 0 }) (rm_pr7 l Z a0 hw [] r_BOOLEAN t jj h101 n0 Z273 f272 H_BOOLEAN) (by decide) (W := 0) (by decide) (by decide) (by decide) e101 (by rw [hml]; rfl) (argsL := [(.ref t)]) (lenOf own_pd0 rfl) (rest := []) rfl rfl (Nat.le_of_eq rfl) (hb hby at_205) ?_
    intro _ T270 L270 X270 hQ270
    obtain ⟨rfl, N270q, e270⟩ := hQ270
    have N270 := Fr.app N101 N270q
    show own_Go p e below _ (T270.setTop (mkF m 208 #[.val (.int x0), .val (.int x1), .val (.ref b1), .val (.int (7 : Int32)), .val (.int jj), .val (.int (0 : Int32))] [(.int (own_p7 jj))]))
    refine own_go (fun _ hr => XS.iload X270.here hx rfl (hb hby at_208) rfl hr) ?_
    show own_Go p e below _ (T270.setTop (mkF m 210 #[.val (.int x0), .val (.int x1), .val (.ref b1), .val (.int (7 : Int32)), .val (.int jj), .val (.int (0 : Int32))] [(.int (0 : Int32)), (.int (own_p7 jj))]))
    have c275 : (own_p7 jj) = (0 : Int32) := by
                        have q := hj20
                        have p0 := c263
                        clear hj20 ht Ft hjb
                        simp only [Int32.lt_iff_toInt_lt, ← Int32.toInt_inj, Int32.reduceToInt] at p0
                        rcases q with q | q | q | q | q | q | q | q | q | q | q | q | q | q | q | q | q | q | q | q <;> subst q <;> first | decide | (exfalso; revert p0; decide)
    refine own_go (fun _ hr => XS.icmpNo X270.here hx rfl (hb hby at_210) rfl (teq c275).2 hr) ?_
    show own_Go p e below _ (T270.setTop (mkF m 213 #[.val (.int x0), .val (.int x1), .val (.ref b1), .val (.int (7 : Int32)), .val (.int jj), .val (.int (0 : Int32))] []))
    refine own_go (fun _ hr => XS.iconst X270.here hx rfl (hb hby at_213) (XS.goto X270.here hx rfl (pc0 := 214) (pc' := 218) rfl (hb hby at_214) (by decide) (by decide) hr)) ?_
    show own_Go p e below _ (T270.setTop (mkF m 218 #[.val (.int x0), .val (.int x1), .val (.ref b1), .val (.int (7 : Int32)), .val (.int jj), .val (.int (0 : Int32))] [(.int (1 : Int32))]))
    exact own_retN X270 hx hlk Bd.returns (t := .boolean) (by simp) (hb hby at_218) (by decide) (by decide) ⟨rfl, N270⟩
  · rw [hk105]
    show own_Go p e below _ (T101.setTop (mkF m 157 #[.val (.int x0), .val (.int x1), .val (.ref b1), .val (.int (8 : Int32)), .val (.int jj), .unset] []))
    refine own_go (fun _ hr => XS.iloadN X101.here hx rfl (hb hby at_157) rfl (XS.iload X101.here hx rfl (hb hby at_158) rfl hr)) ?_
    show own_Go p e below _ (T101.setTop (mkF m 160 #[.val (.int x0), .val (.int x1), .val (.ref b1), .val (.int (8 : Int32)), .val (.int jj), .unset] [(.int jj), (.int (8 : Int32))]))
    by_cases c276 : (8 : Int32) = jj
    · refine own_go (fun _ hr => XS.icmpYes X101.here hx rfl (pc0 := 160) (pc' := 191) rfl (hb hby at_160) rfl (teq c276).1 (by decide) (by decide) hr) ?_
      show own_Go p e below _ (T101.setTop (mkF m 191 #[.val (.int x0), .val (.int x1), .val (.ref b1), .val (.int (8 : Int32)), .val (.int jj), .unset] []))
      refine own_go (fun _ hr => XS.iconst X101.here hx rfl (hb hby at_191) (XS.goto X101.here hx rfl (pc0 := 192) (pc' := 196) rfl (hb hby at_192) (by decide) (by decide) (XS.istore X101.here hx rfl (hb hby at_196) rfl (l' := #[.val (.int x0), .val (.int x1), .val (.ref b1), .val (.int (8 : Int32)), .val (.int jj), .val (.int (1 : Int32))]) rfl (XS.aloadN X101.here hx rfl (hb hby at_198) rfl rfl (XS.iloadN X101.here hx rfl (hb hby at_199) rfl (own_aaload X101 hx hZ e101 f101 (8 : Int32) (.ref r_DATE_TIME) ⟨by decide, by decide⟩ rfl rfl rfl rfl (hb hby at_200) (XS.aloadN X101.here hx rfl (hb hby at_201) rfl rfl hr))))))) ?_
      show own_Go p e below _ (T101.setTop (mkF m 202 #[.val (.int x0), .val (.int x1), .val (.ref b1), .val (.int (8 : Int32)), .val (.int jj), .val (.int (1 : Int32))] [(.ref b1), (.ref r_DATE_TIME)]))
      obtain ⟨t, ht, Ft, hjb⟩ : ∃ t, ([(.ref r_DOUBLE), (.ref r_FLOAT), (.ref r_DECIMAL), (.ref r_INTEGER), (.ref r_STRING), (.ref r_ANY_URI), (.ref r_UNTYPED_ATOMIC), (.ref r_BOOLEAN), (.ref r_DATE_TIME), (.ref r_DATE), (.ref r_TIME), (.ref r_YEAR_MONTH_DURATION), (.ref r_DAY_TIME_DURATION), (.ref r_DURATION), (.ref r_G_YEAR_MONTH), (.ref r_G_YEAR), (.ref r_G_MONTH_DAY), (.ref r_G_DAY), (.ref r_G_MONTH), (.ref r_QNAME)] : List Value).getD jj.toNatClampNeg .null = .ref t ∧ Fld Z h0 t "java/lang/Enum" "ordinal" "I" (.int jj) ∧ (¬ jj < 0 ∧ jj < 20) := by
        rcases hj20 with q | q | q | q | q | q | q | q | q | q | q | q | q | q | q | q | q | q | q | q
        · subst q; exact ⟨r_DOUBLE, rfl, F_DOUBLE_ordinal, by decide, by decide⟩
        · subst q; exact ⟨r_FLOAT, rfl, F_FLOAT_ordinal, by decide, by decide⟩
        · subst q; exact ⟨r_DECIMAL, rfl, F_DECIMAL_ordinal, by decide, by decide⟩
        · subst q; exact ⟨r_INTEGER, rfl, F_INTEGER_ordinal, by decide, by decide⟩
        · subst q; exact ⟨r_STRING, rfl, F_STRING_ordinal, by decide, by decide⟩
        · subst q; exact ⟨r_ANY_URI, rfl, F_ANY_URI_ordinal, by decide, by decide⟩
        · subst q; exact ⟨r_UNTYPED_ATOMIC, rfl, F_UNTYPED_ATOMIC_ordinal, by decide, by decide⟩
        · subst q; exact ⟨r_BOOLEAN, rfl, F_BOOLEAN_ordinal, by decide, by decide⟩
        · subst q; exact ⟨r_DATE_TIME, rfl, F_DATE_TIME_ordinal, by decide, by decide⟩
        · subst q; exact ⟨r_DATE, rfl, F_DATE_ordinal, by decide, by decide⟩
        · subst q; exact ⟨r_TIME, rfl, F_TIME_ordinal, by decide, by decide⟩
        · subst q; exact ⟨r_YEAR_MONTH_DURATION, rfl, F_YEAR_MONTH_DURATION_ordinal, by decide, by decide⟩
        · subst q; exact ⟨r_DAY_TIME_DURATION, rfl, F_DAY_TIME_DURATION_ordinal, by decide, by decide⟩
        · subst q; exact ⟨r_DURATION, rfl, F_DURATION_ordinal, by decide, by decide⟩
        · subst q; exact ⟨r_G_YEAR_MONTH, rfl, F_G_YEAR_MONTH_ordinal, by decide, by decide⟩
        · subst q; exact ⟨r_G_YEAR, rfl, F_G_YEAR_ordinal, by decide, by decide⟩
        · subst q; exact ⟨r_G_MONTH_DAY, rfl, F_G_MONTH_DAY_ordinal, by decide, by decide⟩
        · subst q; exact ⟨r_G_DAY, rfl, F_G_DAY_ordinal, by decide, by decide⟩
        · subst q; exact ⟨r_G_MONTH, rfl, F_G_MONTH_ordinal, by decide, by decide⟩
        · subst q; exact ⟨r_QNAME, rfl, F_QNAME_ordinal, by decide, by decide⟩
      have H_DATE_TIME : r_DATE_TIME = t ↔ jj = (8 : Int32) := ⟨fun q => Value.int.inj (own_fld_eq Ft (q ▸ F_DATE_TIME_ordinal)), fun q => by subst q; exact Value.ref.inj ht⟩
      refine own_go (fun _ hr => XS.iload X101.here hx rfl (hb hby at_202) rfl (own_aaload X101 hx hZ e101 f101 jj (.ref t) hjb ht rfl rfl rfl (hb hby at_204) hr)) ?_
      show own_Go p e below _ (T101.setTop (mkF m 205 #[.val (.int x0), .val (.int x1), .val (.ref b1), .val (.int (8 : Int32)), .val (.int jj), .val (.int (1 : Int32))] [(.ref t), (.ref r_DATE_TIME)]))
      have K278 := (K98.wr W101 (Or.inr sz3))
      have f279 := (F_DATE_TIME_promotion.keep K278 nin0)
      have Z280 := (Nat.le_trans (Nat.le_trans (Nat.le_trans (Nat.le_trans (Nat.le_trans (Nat.le_trans (Nat.le_trans (Nat.le_trans (Nat.le_trans (Nat.le_trans (Nat.le_trans (Nat.le_trans (Nat.le_trans (Nat.le_trans (Nat.le_trans (Nat.le_trans (Nat.le_trans (Nat.le_trans (Nat.le_trans (Nat.le_trans (Nat.le_trans Z0 E1.1) (Nat.le_of_eq W7.size.symm)) (Nat.le_of_eq W11.size.symm)) (Nat.le_of_eq W16.size.symm)) (Nat.le_of_eq W21.size.symm)) (Nat.le_of_eq W26.size.symm)) (Nat.le_of_eq W31.size.symm)) (Nat.le_of_eq W36.size.symm)) (Nat.le_of_eq W41.size.symm)) (Nat.le_of_eq W46.size.symm)) (Nat.le_of_eq W51.size.symm)) (Nat.le_of_eq W56.size.symm)) (Nat.le_of_eq W61.size.symm)) (Nat.le_of_eq W66.size.symm)) (Nat.le_of_eq W71.size.symm)) (Nat.le_of_eq W76.size.symm)) (Nat.le_of_eq W81.size.symm)) (Nat.le_of_eq W86.size.symm)) (Nat.le_of_eq W91.size.symm)) (Nat.le_of_eq W96.size.symm)) (Nat.le_of_eq W101.size.symm))
      have f281 := ((((((((((((f47.wr W46).wr W51).wr W56).wr W61).wr W66).wr W71).wr W76).wr W81).wr W86).wr W91).wr W96).wr W101)
      refine own_cv X101 hx hZ hown (notFace_of_selects (args := #[]) (mvT hZ (hw _ (own_m 48 rfl)))) (hw _ (own_m 45 rfl)) (hw _ (own_m 46 rfl)) (hw _ (own_m 48 rfl)) (hw _ (own_m 47 rfl)) (hw _ (own_m 3 rfl)) (hw _ (own_m 49 rfl)) (by decide) f281 (rm := { frames := 0, cells := 0, slots := 0, locals := 0 }) (rm_pr8 l Z a0 hw [] r_DATE_TIME t jj h101 n0 Z280 f279 H_DATE_TIME) (by decide) (W := 0) (by decide) (by decide) (by decide) e101 (by rw [hml]; rfl) (argsL := [(.ref t)]) (lenOf own_pd0 rfl) (rest := []) rfl rfl (Nat.le_of_eq rfl) (hb hby at_205) ?_
      intro _ T277 L277 X277 hQ277
      obtain ⟨rfl, N277q, e277⟩ := hQ277
      have N277 := Fr.app N101 N277q
      show own_Go p e below _ (T277.setTop (mkF m 208 #[.val (.int x0), .val (.int x1), .val (.ref b1), .val (.int (8 : Int32)), .val (.int jj), .val (.int (1 : Int32))] [(.int (own_p8 jj))]))
      refine own_go (fun _ hr => XS.iload X277.here hx rfl (hb hby at_208) rfl hr) ?_
      show own_Go p e below _ (T277.setTop (mkF m 210 #[.val (.int x0), .val (.int x1), .val (.ref b1), .val (.int (8 : Int32)), .val (.int jj), .val (.int (1 : Int32))] [(.int (1 : Int32)), (.int (own_p8 jj))]))
      have c282 : (own_p8 jj) = (1 : Int32) := by
                        have q := hj20
                        have p0 := c276
                        clear hj20 ht Ft hjb
                        simp only [Int32.lt_iff_toInt_lt, ← Int32.toInt_inj, Int32.reduceToInt] at p0
                        rcases q with q | q | q | q | q | q | q | q | q | q | q | q | q | q | q | q | q | q | q | q <;> subst q <;> first | decide | (exfalso; revert p0; decide)
      refine own_go (fun _ hr => XS.icmpNo X277.here hx rfl (hb hby at_210) rfl (teq c282).2 hr) ?_
      show own_Go p e below _ (T277.setTop (mkF m 213 #[.val (.int x0), .val (.int x1), .val (.ref b1), .val (.int (8 : Int32)), .val (.int jj), .val (.int (1 : Int32))] []))
      refine own_go (fun _ hr => XS.iconst X277.here hx rfl (hb hby at_213) (XS.goto X277.here hx rfl (pc0 := 214) (pc' := 218) rfl (hb hby at_214) (by decide) (by decide) hr)) ?_
      show own_Go p e below _ (T277.setTop (mkF m 218 #[.val (.int x0), .val (.int x1), .val (.ref b1), .val (.int (8 : Int32)), .val (.int jj), .val (.int (1 : Int32))] [(.int (1 : Int32))]))
      exact own_retN X277 hx hlk Bd.returns (t := .boolean) (by simp) (hb hby at_218) (by decide) (by decide) ⟨rfl, N277⟩
    refine own_go (fun _ hr => XS.icmpNo X101.here hx rfl (hb hby at_160) rfl (feq c276).1 hr) ?_
    show own_Go p e below _ (T101.setTop (mkF m 163 #[.val (.int x0), .val (.int x1), .val (.ref b1), .val (.int (8 : Int32)), .val (.int jj), .unset] []))
    refine own_go (fun _ hr => XS.iloadN X101.here hx rfl (hb hby at_163) rfl (XS.iconst X101.here hx rfl (hb hby at_164) (XS.icmpYes X101.here hx rfl (pc0 := 165) (pc' := 174) rfl (hb hby at_165) rfl (tlt (by decide)).2.2.1 (by decide) (by decide) (XS.iloadN X101.here hx rfl (hb hby at_174) rfl (XS.iconst X101.here hx rfl (hb hby at_175) (XS.icmpNo X101.here hx rfl (hb hby at_176) rfl (feq (by decide)).1 (XS.iloadN X101.here hx rfl (hb hby at_179) rfl (XS.bipush X101.here hx rfl (hb hby at_180) (XS.icmpYes X101.here hx rfl (pc0 := 182) (pc' := 195) rfl (hb hby at_182) rfl (feq (by decide)).2 (by decide) (by decide) (XS.iconst X101.here hx rfl (hb hby at_195) hr)))))))))) ?_
    show own_Go p e below _ (T101.setTop (mkF m 196 #[.val (.int x0), .val (.int x1), .val (.ref b1), .val (.int (8 : Int32)), .val (.int jj), .unset] [(.int (0 : Int32))]))
    refine own_go (fun _ hr => XS.istore X101.here hx rfl (hb hby at_196) rfl (l' := #[.val (.int x0), .val (.int x1), .val (.ref b1), .val (.int (8 : Int32)), .val (.int jj), .val (.int (0 : Int32))]) rfl (XS.aloadN X101.here hx rfl (hb hby at_198) rfl rfl (XS.iloadN X101.here hx rfl (hb hby at_199) rfl (own_aaload X101 hx hZ e101 f101 (8 : Int32) (.ref r_DATE_TIME) ⟨by decide, by decide⟩ rfl rfl rfl rfl (hb hby at_200) (XS.aloadN X101.here hx rfl (hb hby at_201) rfl rfl hr))))) ?_
    show own_Go p e below _ (T101.setTop (mkF m 202 #[.val (.int x0), .val (.int x1), .val (.ref b1), .val (.int (8 : Int32)), .val (.int jj), .val (.int (0 : Int32))] [(.ref b1), (.ref r_DATE_TIME)]))
    obtain ⟨t, ht, Ft, hjb⟩ : ∃ t, ([(.ref r_DOUBLE), (.ref r_FLOAT), (.ref r_DECIMAL), (.ref r_INTEGER), (.ref r_STRING), (.ref r_ANY_URI), (.ref r_UNTYPED_ATOMIC), (.ref r_BOOLEAN), (.ref r_DATE_TIME), (.ref r_DATE), (.ref r_TIME), (.ref r_YEAR_MONTH_DURATION), (.ref r_DAY_TIME_DURATION), (.ref r_DURATION), (.ref r_G_YEAR_MONTH), (.ref r_G_YEAR), (.ref r_G_MONTH_DAY), (.ref r_G_DAY), (.ref r_G_MONTH), (.ref r_QNAME)] : List Value).getD jj.toNatClampNeg .null = .ref t ∧ Fld Z h0 t "java/lang/Enum" "ordinal" "I" (.int jj) ∧ (¬ jj < 0 ∧ jj < 20) := by
      rcases hj20 with q | q | q | q | q | q | q | q | q | q | q | q | q | q | q | q | q | q | q | q
      · subst q; exact ⟨r_DOUBLE, rfl, F_DOUBLE_ordinal, by decide, by decide⟩
      · subst q; exact ⟨r_FLOAT, rfl, F_FLOAT_ordinal, by decide, by decide⟩
      · subst q; exact ⟨r_DECIMAL, rfl, F_DECIMAL_ordinal, by decide, by decide⟩
      · subst q; exact ⟨r_INTEGER, rfl, F_INTEGER_ordinal, by decide, by decide⟩
      · subst q; exact ⟨r_STRING, rfl, F_STRING_ordinal, by decide, by decide⟩
      · subst q; exact ⟨r_ANY_URI, rfl, F_ANY_URI_ordinal, by decide, by decide⟩
      · subst q; exact ⟨r_UNTYPED_ATOMIC, rfl, F_UNTYPED_ATOMIC_ordinal, by decide, by decide⟩
      · subst q; exact ⟨r_BOOLEAN, rfl, F_BOOLEAN_ordinal, by decide, by decide⟩
      · subst q; exact ⟨r_DATE_TIME, rfl, F_DATE_TIME_ordinal, by decide, by decide⟩
      · subst q; exact ⟨r_DATE, rfl, F_DATE_ordinal, by decide, by decide⟩
      · subst q; exact ⟨r_TIME, rfl, F_TIME_ordinal, by decide, by decide⟩
      · subst q; exact ⟨r_YEAR_MONTH_DURATION, rfl, F_YEAR_MONTH_DURATION_ordinal, by decide, by decide⟩
      · subst q; exact ⟨r_DAY_TIME_DURATION, rfl, F_DAY_TIME_DURATION_ordinal, by decide, by decide⟩
      · subst q; exact ⟨r_DURATION, rfl, F_DURATION_ordinal, by decide, by decide⟩
      · subst q; exact ⟨r_G_YEAR_MONTH, rfl, F_G_YEAR_MONTH_ordinal, by decide, by decide⟩
      · subst q; exact ⟨r_G_YEAR, rfl, F_G_YEAR_ordinal, by decide, by decide⟩
      · subst q; exact ⟨r_G_MONTH_DAY, rfl, F_G_MONTH_DAY_ordinal, by decide, by decide⟩
      · subst q; exact ⟨r_G_DAY, rfl, F_G_DAY_ordinal, by decide, by decide⟩
      · subst q; exact ⟨r_G_MONTH, rfl, F_G_MONTH_ordinal, by decide, by decide⟩
      · subst q; exact ⟨r_QNAME, rfl, F_QNAME_ordinal, by decide, by decide⟩
    have H_DATE_TIME : r_DATE_TIME = t ↔ jj = (8 : Int32) := ⟨fun q => Value.int.inj (own_fld_eq Ft (q ▸ F_DATE_TIME_ordinal)), fun q => by subst q; exact Value.ref.inj ht⟩
    refine own_go (fun _ hr => XS.iload X101.here hx rfl (hb hby at_202) rfl (own_aaload X101 hx hZ e101 f101 jj (.ref t) hjb ht rfl rfl rfl (hb hby at_204) hr)) ?_
    show own_Go p e below _ (T101.setTop (mkF m 205 #[.val (.int x0), .val (.int x1), .val (.ref b1), .val (.int (8 : Int32)), .val (.int jj), .val (.int (0 : Int32))] [(.ref t), (.ref r_DATE_TIME)]))
    have K284 := (K98.wr W101 (Or.inr sz3))
    have f285 := (F_DATE_TIME_promotion.keep K284 nin0)
    have Z286 := (Nat.le_trans (Nat.le_trans (Nat.le_trans (Nat.le_trans (Nat.le_trans (Nat.le_trans (Nat.le_trans (Nat.le_trans (Nat.le_trans (Nat.le_trans (Nat.le_trans (Nat.le_trans (Nat.le_trans (Nat.le_trans (Nat.le_trans (Nat.le_trans (Nat.le_trans (Nat.le_trans (Nat.le_trans (Nat.le_trans (Nat.le_trans Z0 E1.1) (Nat.le_of_eq W7.size.symm)) (Nat.le_of_eq W11.size.symm)) (Nat.le_of_eq W16.size.symm)) (Nat.le_of_eq W21.size.symm)) (Nat.le_of_eq W26.size.symm)) (Nat.le_of_eq W31.size.symm)) (Nat.le_of_eq W36.size.symm)) (Nat.le_of_eq W41.size.symm)) (Nat.le_of_eq W46.size.symm)) (Nat.le_of_eq W51.size.symm)) (Nat.le_of_eq W56.size.symm)) (Nat.le_of_eq W61.size.symm)) (Nat.le_of_eq W66.size.symm)) (Nat.le_of_eq W71.size.symm)) (Nat.le_of_eq W76.size.symm)) (Nat.le_of_eq W81.size.symm)) (Nat.le_of_eq W86.size.symm)) (Nat.le_of_eq W91.size.symm)) (Nat.le_of_eq W96.size.symm)) (Nat.le_of_eq W101.size.symm))
    have f287 := ((((((((((((f47.wr W46).wr W51).wr W56).wr W61).wr W66).wr W71).wr W76).wr W81).wr W86).wr W91).wr W96).wr W101)
    refine own_cv X101 hx hZ hown (notFace_of_selects (args := #[]) (mvT hZ (hw _ (own_m 48 rfl)))) (hw _ (own_m 45 rfl)) (hw _ (own_m 46 rfl)) (hw _ (own_m 48 rfl)) (hw _ (own_m 47 rfl)) (hw _ (own_m 3 rfl)) (hw _ (own_m 49 rfl)) (by decide) f287 (rm := { frames := 0, cells := 0, slots := 0, locals := 0 }) (rm_pr8 l Z a0 hw [] r_DATE_TIME t jj h101 n0 Z286 f285 H_DATE_TIME) (by decide) (W := 0) (by decide) (by decide) (by decide) e101 (by rw [hml]; rfl) (argsL := [(.ref t)]) (lenOf own_pd0 rfl) (rest := []) rfl rfl (Nat.le_of_eq rfl) (hb hby at_205) ?_
    intro _ T283 L283 X283 hQ283
    obtain ⟨rfl, N283q, e283⟩ := hQ283
    have N283 := Fr.app N101 N283q
    show own_Go p e below _ (T283.setTop (mkF m 208 #[.val (.int x0), .val (.int x1), .val (.ref b1), .val (.int (8 : Int32)), .val (.int jj), .val (.int (0 : Int32))] [(.int (own_p8 jj))]))
    refine own_go (fun _ hr => XS.iload X283.here hx rfl (hb hby at_208) rfl hr) ?_
    show own_Go p e below _ (T283.setTop (mkF m 210 #[.val (.int x0), .val (.int x1), .val (.ref b1), .val (.int (8 : Int32)), .val (.int jj), .val (.int (0 : Int32))] [(.int (0 : Int32)), (.int (own_p8 jj))]))
    have c288 : (own_p8 jj) = (0 : Int32) := by
                        have q := hj20
                        have p0 := c276
                        clear hj20 ht Ft hjb
                        simp only [Int32.lt_iff_toInt_lt, ← Int32.toInt_inj, Int32.reduceToInt] at p0
                        rcases q with q | q | q | q | q | q | q | q | q | q | q | q | q | q | q | q | q | q | q | q <;> subst q <;> first | decide | (exfalso; revert p0; decide)
    refine own_go (fun _ hr => XS.icmpNo X283.here hx rfl (hb hby at_210) rfl (teq c288).2 hr) ?_
    show own_Go p e below _ (T283.setTop (mkF m 213 #[.val (.int x0), .val (.int x1), .val (.ref b1), .val (.int (8 : Int32)), .val (.int jj), .val (.int (0 : Int32))] []))
    refine own_go (fun _ hr => XS.iconst X283.here hx rfl (hb hby at_213) (XS.goto X283.here hx rfl (pc0 := 214) (pc' := 218) rfl (hb hby at_214) (by decide) (by decide) hr)) ?_
    show own_Go p e below _ (T283.setTop (mkF m 218 #[.val (.int x0), .val (.int x1), .val (.ref b1), .val (.int (8 : Int32)), .val (.int jj), .val (.int (0 : Int32))] [(.int (1 : Int32))]))
    exact own_retN X283 hx hlk Bd.returns (t := .boolean) (by simp) (hb hby at_218) (by decide) (by decide) ⟨rfl, N283⟩
  · rw [hk105]
    show own_Go p e below _ (T101.setTop (mkF m 157 #[.val (.int x0), .val (.int x1), .val (.ref b1), .val (.int (9 : Int32)), .val (.int jj), .unset] []))
    refine own_go (fun _ hr => XS.iloadN X101.here hx rfl (hb hby at_157) rfl (XS.iload X101.here hx rfl (hb hby at_158) rfl hr)) ?_
    show own_Go p e below _ (T101.setTop (mkF m 160 #[.val (.int x0), .val (.int x1), .val (.ref b1), .val (.int (9 : Int32)), .val (.int jj), .unset] [(.int jj), (.int (9 : Int32))]))
    by_cases c289 : (9 : Int32) = jj
    · refine own_go (fun _ hr => XS.icmpYes X101.here hx rfl (pc0 := 160) (pc' := 191) rfl (hb hby at_160) rfl (teq c289).1 (by decide) (by decide) hr) ?_
      show own_Go p e below _ (T101.setTop (mkF m 191 #[.val (.int x0), .val (.int x1), .val (.ref b1), .val (.int (9 : Int32)), .val (.int jj), .unset] []))
      refine own_go (fun _ hr => XS.iconst X101.here hx rfl (hb hby at_191) (XS.goto X101.here hx rfl (pc0 := 192) (pc' := 196) rfl (hb hby at_192) (by decide) (by decide) (XS.istore X101.here hx rfl (hb hby at_196) rfl (l' := #[.val (.int x0), .val (.int x1), .val (.ref b1), .val (.int (9 : Int32)), .val (.int jj), .val (.int (1 : Int32))]) rfl (XS.aloadN X101.here hx rfl (hb hby at_198) rfl rfl (XS.iloadN X101.here hx rfl (hb hby at_199) rfl (own_aaload X101 hx hZ e101 f101 (9 : Int32) (.ref r_DATE) ⟨by decide, by decide⟩ rfl rfl rfl rfl (hb hby at_200) (XS.aloadN X101.here hx rfl (hb hby at_201) rfl rfl hr))))))) ?_
      show own_Go p e below _ (T101.setTop (mkF m 202 #[.val (.int x0), .val (.int x1), .val (.ref b1), .val (.int (9 : Int32)), .val (.int jj), .val (.int (1 : Int32))] [(.ref b1), (.ref r_DATE)]))
      obtain ⟨t, ht, Ft, hjb⟩ : ∃ t, ([(.ref r_DOUBLE), (.ref r_FLOAT), (.ref r_DECIMAL), (.ref r_INTEGER), (.ref r_STRING), (.ref r_ANY_URI), (.ref r_UNTYPED_ATOMIC), (.ref r_BOOLEAN), (.ref r_DATE_TIME), (.ref r_DATE), (.ref r_TIME), (.ref r_YEAR_MONTH_DURATION), (.ref r_DAY_TIME_DURATION), (.ref r_DURATION), (.ref r_G_YEAR_MONTH), (.ref r_G_YEAR), (.ref r_G_MONTH_DAY), (.ref r_G_DAY), (.ref r_G_MONTH), (.ref r_QNAME)] : List Value).getD jj.toNatClampNeg .null = .ref t ∧ Fld Z h0 t "java/lang/Enum" "ordinal" "I" (.int jj) ∧ (¬ jj < 0 ∧ jj < 20) := by
        rcases hj20 with q | q | q | q | q | q | q | q | q | q | q | q | q | q | q | q | q | q | q | q
        · subst q; exact ⟨r_DOUBLE, rfl, F_DOUBLE_ordinal, by decide, by decide⟩
        · subst q; exact ⟨r_FLOAT, rfl, F_FLOAT_ordinal, by decide, by decide⟩
        · subst q; exact ⟨r_DECIMAL, rfl, F_DECIMAL_ordinal, by decide, by decide⟩
        · subst q; exact ⟨r_INTEGER, rfl, F_INTEGER_ordinal, by decide, by decide⟩
        · subst q; exact ⟨r_STRING, rfl, F_STRING_ordinal, by decide, by decide⟩
        · subst q; exact ⟨r_ANY_URI, rfl, F_ANY_URI_ordinal, by decide, by decide⟩
        · subst q; exact ⟨r_UNTYPED_ATOMIC, rfl, F_UNTYPED_ATOMIC_ordinal, by decide, by decide⟩
        · subst q; exact ⟨r_BOOLEAN, rfl, F_BOOLEAN_ordinal, by decide, by decide⟩
        · subst q; exact ⟨r_DATE_TIME, rfl, F_DATE_TIME_ordinal, by decide, by decide⟩
        · subst q; exact ⟨r_DATE, rfl, F_DATE_ordinal, by decide, by decide⟩
        · subst q; exact ⟨r_TIME, rfl, F_TIME_ordinal, by decide, by decide⟩
        · subst q; exact ⟨r_YEAR_MONTH_DURATION, rfl, F_YEAR_MONTH_DURATION_ordinal, by decide, by decide⟩
        · subst q; exact ⟨r_DAY_TIME_DURATION, rfl, F_DAY_TIME_DURATION_ordinal, by decide, by decide⟩
        · subst q; exact ⟨r_DURATION, rfl, F_DURATION_ordinal, by decide, by decide⟩
        · subst q; exact ⟨r_G_YEAR_MONTH, rfl, F_G_YEAR_MONTH_ordinal, by decide, by decide⟩
        · subst q; exact ⟨r_G_YEAR, rfl, F_G_YEAR_ordinal, by decide, by decide⟩
        · subst q; exact ⟨r_G_MONTH_DAY, rfl, F_G_MONTH_DAY_ordinal, by decide, by decide⟩
        · subst q; exact ⟨r_G_DAY, rfl, F_G_DAY_ordinal, by decide, by decide⟩
        · subst q; exact ⟨r_G_MONTH, rfl, F_G_MONTH_ordinal, by decide, by decide⟩
        · subst q; exact ⟨r_QNAME, rfl, F_QNAME_ordinal, by decide, by decide⟩
      have H_DATE : r_DATE = t ↔ jj = (9 : Int32) := ⟨fun q => Value.int.inj (own_fld_eq Ft (q ▸ F_DATE_ordinal)), fun q => by subst q; exact Value.ref.inj ht⟩
      refine own_go (fun _ hr => XS.iload X101.here hx rfl (hb hby at_202) rfl (own_aaload X101 hx hZ e101 f101 jj (.ref t) hjb ht rfl rfl rfl (hb hby at_204) hr)) ?_
      show own_Go p e below _ (T101.setTop (mkF m 205 #[.val (.int x0), .val (.int x1), .val (.ref b1), .val (.int (9 : Int32)), .val (.int jj), .val (.int (1 : Int32))] [(.ref t), (.ref r_DATE)]))
      have K291 := (K98.wr W101 (Or.inr sz3))
      have f292 := (F_DATE_promotion.keep K291 nin0)
      have Z293 := (Nat.le_trans (Nat.le_trans (Nat.le_trans (Nat.le_trans (Nat.le_trans (Nat.le_trans (Nat.le_trans (Nat.le_trans (Nat.le_trans (Nat.le_trans (Nat.le_trans (Nat.le_trans (Nat.le_trans (Nat.le_trans (Nat.le_trans (Nat.le_trans (Nat.le_trans (Nat.le_trans (Nat.le_trans (Nat.le_trans (Nat.le_trans Z0 E1.1) (Nat.le_of_eq W7.size.symm)) (Nat.le_of_eq W11.size.symm)) (Nat.le_of_eq W16.size.symm)) (Nat.le_of_eq W21.size.symm)) (Nat.le_of_eq W26.size.symm)) (Nat.le_of_eq W31.size.symm)) (Nat.le_of_eq W36.size.symm)) (Nat.le_of_eq W41.size.symm)) (Nat.le_of_eq W46.size.symm)) (Nat.le_of_eq W51.size.symm)) (Nat.le_of_eq W56.size.symm)) (Nat.le_of_eq W61.size.symm)) (Nat.le_of_eq W66.size.symm)) (Nat.le_of_eq W71.size.symm)) (Nat.le_of_eq W76.size.symm)) (Nat.le_of_eq W81.size.symm)) (Nat.le_of_eq W86.size.symm)) (Nat.le_of_eq W91.size.symm)) (Nat.le_of_eq W96.size.symm)) (Nat.le_of_eq W101.size.symm))
      have f294 := (((((((((((f52.wr W51).wr W56).wr W61).wr W66).wr W71).wr W76).wr W81).wr W86).wr W91).wr W96).wr W101)
      refine own_cv X101 hx hZ hown (notFace_of_selects (args := #[]) (mvT hZ (hw _ (own_m 48 rfl)))) (hw _ (own_m 45 rfl)) (hw _ (own_m 46 rfl)) (hw _ (own_m 48 rfl)) (hw _ (own_m 47 rfl)) (hw _ (own_m 3 rfl)) (hw _ (own_m 49 rfl)) (by decide) f294 (rm := { frames := 0, cells := 0, slots := 0, locals := 0 }) (rm_pr9 l Z a0 hw [] r_DATE t jj h101 n0 Z293 f292 H_DATE) (by decide) (W := 0) (by decide) (by decide) (by decide) e101 (by rw [hml]; rfl) (argsL := [(.ref t)]) (lenOf own_pd0 rfl) (rest := []) rfl rfl (Nat.le_of_eq rfl) (hb hby at_205) ?_
      intro _ T290 L290 X290 hQ290
      obtain ⟨rfl, N290q, e290⟩ := hQ290
      have N290 := Fr.app N101 N290q
      show own_Go p e below _ (T290.setTop (mkF m 208 #[.val (.int x0), .val (.int x1), .val (.ref b1), .val (.int (9 : Int32)), .val (.int jj), .val (.int (1 : Int32))] [(.int (own_p9 jj))]))
      refine own_go (fun _ hr => XS.iload X290.here hx rfl (hb hby at_208) rfl hr) ?_
      show own_Go p e below _ (T290.setTop (mkF m 210 #[.val (.int x0), .val (.int x1), .val (.ref b1), .val (.int (9 : Int32)), .val (.int jj), .val (.int (1 : Int32))] [(.int (1 : Int32)), (.int (own_p9 jj))]))
      have c295 : (own_p9 jj) = (1 : Int32) := by
                        have q := hj20
                        have p0 := c289
                        clear hj20 ht Ft hjb
                        simp only [Int32.lt_iff_toInt_lt, ← Int32.toInt_inj, Int32.reduceToInt] at p0
                        rcases q with q | q | q | q | q | q | q | q | q | q | q | q | q | q | q | q | q | q | q | q <;> subst q <;> first | decide | (exfalso; revert p0; decide)
      refine own_go (fun _ hr => XS.icmpNo X290.here hx rfl (hb hby at_210) rfl (teq c295).2 hr) ?_
      show own_Go p e below _ (T290.setTop (mkF m 213 #[.val (.int x0), .val (.int x1), .val (.ref b1), .val (.int (9 : Int32)), .val (.int jj), .val (.int (1 : Int32))] []))
      refine own_go (fun _ hr => XS.iconst X290.here hx rfl (hb hby at_213) (XS.goto X290.here hx rfl (pc0 := 214) (pc' := 218) rfl (hb hby at_214) (by decide) (by decide) hr)) ?_
      show own_Go p e below _ (T290.setTop (mkF m 218 #[.val (.int x0), .val (.int x1), .val (.ref b1), .val (.int (9 : Int32)), .val (.int jj), .val (.int (1 : Int32))] [(.int (1 : Int32))]))
      exact own_retN X290 hx hlk Bd.returns (t := .boolean) (by simp) (hb hby at_218) (by decide) (by decide) ⟨rfl, N290⟩
    refine own_go (fun _ hr => XS.icmpNo X101.here hx rfl (hb hby at_160) rfl (feq c289).1 hr) ?_
    show own_Go p e below _ (T101.setTop (mkF m 163 #[.val (.int x0), .val (.int x1), .val (.ref b1), .val (.int (9 : Int32)), .val (.int jj), .unset] []))
    refine own_go (fun _ hr => XS.iloadN X101.here hx rfl (hb hby at_163) rfl (XS.iconst X101.here hx rfl (hb hby at_164) (XS.icmpYes X101.here hx rfl (pc0 := 165) (pc' := 174) rfl (hb hby at_165) rfl (tlt (by decide)).2.2.1 (by decide) (by decide) (XS.iloadN X101.here hx rfl (hb hby at_174) rfl (XS.iconst X101.here hx rfl (hb hby at_175) (XS.icmpNo X101.here hx rfl (hb hby at_176) rfl (feq (by decide)).1 (XS.iloadN X101.here hx rfl (hb hby at_179) rfl (XS.bipush X101.here hx rfl (hb hby at_180) (XS.icmpYes X101.here hx rfl (pc0 := 182) (pc' := 195) rfl (hb hby at_182) rfl (feq (by decide)).2 (by decide) (by decide) (XS.iconst X101.here hx rfl (hb hby at_195) hr)))))))))) ?_
    show own_Go p e below _ (T101.setTop (mkF m 196 #[.val (.int x0), .val (.int x1), .val (.ref b1), .val (.int (9 : Int32)), .val (.int jj), .unset] [(.int (0 : Int32))]))
    refine own_go (fun _ hr => XS.istore X101.here hx rfl (hb hby at_196) rfl (l' := #[.val (.int x0), .val (.int x1), .val (.ref b1), .val (.int (9 : Int32)), .val (.int jj), .val (.int (0 : Int32))]) rfl (XS.aloadN X101.here hx rfl (hb hby at_198) rfl rfl (XS.iloadN X101.here hx rfl (hb hby at_199) rfl (own_aaload X101 hx hZ e101 f101 (9 : Int32) (.ref r_DATE) ⟨by decide, by decide⟩ rfl rfl rfl rfl (hb hby at_200) (XS.aloadN X101.here hx rfl (hb hby at_201) rfl rfl hr))))) ?_
    show own_Go p e below _ (T101.setTop (mkF m 202 #[.val (.int x0), .val (.int x1), .val (.ref b1), .val (.int (9 : Int32)), .val (.int jj), .val (.int (0 : Int32))] [(.ref b1), (.ref r_DATE)]))
    obtain ⟨t, ht, Ft, hjb⟩ : ∃ t, ([(.ref r_DOUBLE), (.ref r_FLOAT), (.ref r_DECIMAL), (.ref r_INTEGER), (.ref r_STRING), (.ref r_ANY_URI), (.ref r_UNTYPED_ATOMIC), (.ref r_BOOLEAN), (.ref r_DATE_TIME), (.ref r_DATE), (.ref r_TIME), (.ref r_YEAR_MONTH_DURATION), (.ref r_DAY_TIME_DURATION), (.ref r_DURATION), (.ref r_G_YEAR_MONTH), (.ref r_G_YEAR), (.ref r_G_MONTH_DAY), (.ref r_G_DAY), (.ref r_G_MONTH), (.ref r_QNAME)] : List Value).getD jj.toNatClampNeg .null = .ref t ∧ Fld Z h0 t "java/lang/Enum" "ordinal" "I" (.int jj) ∧ (¬ jj < 0 ∧ jj < 20) := by
      rcases hj20 with q | q | q | q | q | q | q | q | q | q | q | q | q | q | q | q | q | q | q | q
      · subst q; exact ⟨r_DOUBLE, rfl, F_DOUBLE_ordinal, by decide, by decide⟩
      · subst q; exact ⟨r_FLOAT, rfl, F_FLOAT_ordinal, by decide, by decide⟩
      · subst q; exact ⟨r_DECIMAL, rfl, F_DECIMAL_ordinal, by decide, by decide⟩
      · subst q; exact ⟨r_INTEGER, rfl, F_INTEGER_ordinal, by decide, by decide⟩
      · subst q; exact ⟨r_STRING, rfl, F_STRING_ordinal, by decide, by decide⟩
      · subst q; exact ⟨r_ANY_URI, rfl, F_ANY_URI_ordinal, by decide, by decide⟩
      · subst q; exact ⟨r_UNTYPED_ATOMIC, rfl, F_UNTYPED_ATOMIC_ordinal, by decide, by decide⟩
      · subst q; exact ⟨r_BOOLEAN, rfl, F_BOOLEAN_ordinal, by decide, by decide⟩
      · subst q; exact ⟨r_DATE_TIME, rfl, F_DATE_TIME_ordinal, by decide, by decide⟩
      · subst q; exact ⟨r_DATE, rfl, F_DATE_ordinal, by decide, by decide⟩
      · subst q; exact ⟨r_TIME, rfl, F_TIME_ordinal, by decide, by decide⟩
      · subst q; exact ⟨r_YEAR_MONTH_DURATION, rfl, F_YEAR_MONTH_DURATION_ordinal, by decide, by decide⟩
      · subst q; exact ⟨r_DAY_TIME_DURATION, rfl, F_DAY_TIME_DURATION_ordinal, by decide, by decide⟩
      · subst q; exact ⟨r_DURATION, rfl, F_DURATION_ordinal, by decide, by decide⟩
      · subst q; exact ⟨r_G_YEAR_MONTH, rfl, F_G_YEAR_MONTH_ordinal, by decide, by decide⟩
      · subst q; exact ⟨r_G_YEAR, rfl, F_G_YEAR_ordinal, by decide, by decide⟩
      · subst q; exact ⟨r_G_MONTH_DAY, rfl, F_G_MONTH_DAY_ordinal, by decide, by decide⟩
      · subst q; exact ⟨r_G_DAY, rfl, F_G_DAY_ordinal, by decide, by decide⟩
      · subst q; exact ⟨r_G_MONTH, rfl, F_G_MONTH_ordinal, by decide, by decide⟩
      · subst q; exact ⟨r_QNAME, rfl, F_QNAME_ordinal, by decide, by decide⟩
    have H_DATE : r_DATE = t ↔ jj = (9 : Int32) := ⟨fun q => Value.int.inj (own_fld_eq Ft (q ▸ F_DATE_ordinal)), fun q => by subst q; exact Value.ref.inj ht⟩
    refine own_go (fun _ hr => XS.iload X101.here hx rfl (hb hby at_202) rfl (own_aaload X101 hx hZ e101 f101 jj (.ref t) hjb ht rfl rfl rfl (hb hby at_204) hr)) ?_
    show own_Go p e below _ (T101.setTop (mkF m 205 #[.val (.int x0), .val (.int x1), .val (.ref b1), .val (.int (9 : Int32)), .val (.int jj), .val (.int (0 : Int32))] [(.ref t), (.ref r_DATE)]))
    have K297 := (K98.wr W101 (Or.inr sz3))
    have f298 := (F_DATE_promotion.keep K297 nin0)
    have Z299 := (Nat.le_trans (Nat.le_trans (Nat.le_trans (Nat.le_trans (Nat.le_trans (Nat.le_trans (Nat.le_trans (Nat.le_trans (Nat.le_trans (Nat.le_trans (Nat.le_trans (Nat.le_trans (Nat.le_trans (Nat.le_trans (Nat.le_trans (Nat.le_trans (Nat.le_trans (Nat.le_trans (Nat.le_trans (Nat.le_trans (Nat.le_trans Z0 E1.1) (Nat.le_of_eq W7.size.symm)) (Nat.le_of_eq W11.size.symm)) (Nat.le_of_eq W16.size.symm)) (Nat.le_of_eq W21.size.symm)) (Nat.le_of_eq W26.size.symm)) (Nat.le_of_eq W31.size.symm)) (Nat.le_of_eq W36.size.symm)) (Nat.le_of_eq W41.size.symm)) (Nat.le_of_eq W46.size.symm)) (Nat.le_of_eq W51.size.symm)) (Nat.le_of_eq W56.size.symm)) (Nat.le_of_eq W61.size.symm)) (Nat.le_of_eq W66.size.symm)) (Nat.le_of_eq W71.size.symm)) (Nat.le_of_eq W76.size.symm)) (Nat.le_of_eq W81.size.symm)) (Nat.le_of_eq W86.size.symm)) (Nat.le_of_eq W91.size.symm)) (Nat.le_of_eq W96.size.symm)) (Nat.le_of_eq W101.size.symm))
    have f300 := (((((((((((f52.wr W51).wr W56).wr W61).wr W66).wr W71).wr W76).wr W81).wr W86).wr W91).wr W96).wr W101)
    refine own_cv X101 hx hZ hown (notFace_of_selects (args := #[]) (mvT hZ (hw _ (own_m 48 rfl)))) (hw _ (own_m 45 rfl)) (hw _ (own_m 46 rfl)) (hw _ (own_m 48 rfl)) (hw _ (own_m 47 rfl)) (hw _ (own_m 3 rfl)) (hw _ (own_m 49 rfl)) (by decide) f300 (rm := { frames := 0, cells := 0, slots := 0, locals := 0 }) (rm_pr9 l Z a0 hw [] r_DATE t jj h101 n0 Z299 f298 H_DATE) (by decide) (W := 0) (by decide) (by decide) (by decide) e101 (by rw [hml]; rfl) (argsL := [(.ref t)]) (lenOf own_pd0 rfl) (rest := []) rfl rfl (Nat.le_of_eq rfl) (hb hby at_205) ?_
    intro _ T296 L296 X296 hQ296
    obtain ⟨rfl, N296q, e296⟩ := hQ296
    have N296 := Fr.app N101 N296q
    show own_Go p e below _ (T296.setTop (mkF m 208 #[.val (.int x0), .val (.int x1), .val (.ref b1), .val (.int (9 : Int32)), .val (.int jj), .val (.int (0 : Int32))] [(.int (own_p9 jj))]))
    refine own_go (fun _ hr => XS.iload X296.here hx rfl (hb hby at_208) rfl hr) ?_
    show own_Go p e below _ (T296.setTop (mkF m 210 #[.val (.int x0), .val (.int x1), .val (.ref b1), .val (.int (9 : Int32)), .val (.int jj), .val (.int (0 : Int32))] [(.int (0 : Int32)), (.int (own_p9 jj))]))
    have c301 : (own_p9 jj) = (0 : Int32) := by
                        have q := hj20
                        have p0 := c289
                        clear hj20 ht Ft hjb
                        simp only [Int32.lt_iff_toInt_lt, ← Int32.toInt_inj, Int32.reduceToInt] at p0
                        rcases q with q | q | q | q | q | q | q | q | q | q | q | q | q | q | q | q | q | q | q | q <;> subst q <;> first | decide | (exfalso; revert p0; decide)
    refine own_go (fun _ hr => XS.icmpNo X296.here hx rfl (hb hby at_210) rfl (teq c301).2 hr) ?_
    show own_Go p e below _ (T296.setTop (mkF m 213 #[.val (.int x0), .val (.int x1), .val (.ref b1), .val (.int (9 : Int32)), .val (.int jj), .val (.int (0 : Int32))] []))
    refine own_go (fun _ hr => XS.iconst X296.here hx rfl (hb hby at_213) (XS.goto X296.here hx rfl (pc0 := 214) (pc' := 218) rfl (hb hby at_214) (by decide) (by decide) hr)) ?_
    show own_Go p e below _ (T296.setTop (mkF m 218 #[.val (.int x0), .val (.int x1), .val (.ref b1), .val (.int (9 : Int32)), .val (.int jj), .val (.int (0 : Int32))] [(.int (1 : Int32))]))
    exact own_retN X296 hx hlk Bd.returns (t := .boolean) (by simp) (hb hby at_218) (by decide) (by decide) ⟨rfl, N296⟩
  · rw [hk105]
    show own_Go p e below _ (T101.setTop (mkF m 157 #[.val (.int x0), .val (.int x1), .val (.ref b1), .val (.int (10 : Int32)), .val (.int jj), .unset] []))
    refine own_go (fun _ hr => XS.iloadN X101.here hx rfl (hb hby at_157) rfl (XS.iload X101.here hx rfl (hb hby at_158) rfl hr)) ?_
    show own_Go p e below _ (T101.setTop (mkF m 160 #[.val (.int x0), .val (.int x1), .val (.ref b1), .val (.int (10 : Int32)), .val (.int jj), .unset] [(.int jj), (.int (10 : Int32))]))
    by_cases c302 : (10 : Int32) = jj
    · refine own_go (fun _ hr => XS.icmpYes X101.here hx rfl (pc0 := 160) (pc' := 191) rfl (hb hby at_160) rfl (teq c302).1 (by decide) (by decide) hr) ?_
      show own_Go p e below _ (T101.setTop (mkF m 191 #[.val (.int x0), .val (.int x1), .val (.ref b1), .val (.int (10 : Int32)), .val (.int jj), .unset] []))
      refine own_go (fun _ hr => XS.iconst X101.here hx rfl (hb hby at_191) (XS.goto X101.here hx rfl (pc0 := 192) (pc' := 196) rfl (hb hby at_192) (by decide) (by decide) (XS.istore X101.here hx rfl (hb hby at_196) rfl (l' := #[.val (.int x0), .val (.int x1), .val (.ref b1), .val (.int (10 : Int32)), .val (.int jj), .val (.int (1 : Int32))]) rfl (XS.aloadN X101.here hx rfl (hb hby at_198) rfl rfl (XS.iloadN X101.here hx rfl (hb hby at_199) rfl (own_aaload X101 hx hZ e101 f101 (10 : Int32) (.ref r_TIME) ⟨by decide, by decide⟩ rfl rfl rfl rfl (hb hby at_200) (XS.aloadN X101.here hx rfl (hb hby at_201) rfl rfl hr))))))) ?_
      show own_Go p e below _ (T101.setTop (mkF m 202 #[.val (.int x0), .val (.int x1), .val (.ref b1), .val (.int (10 : Int32)), .val (.int jj), .val (.int (1 : Int32))] [(.ref b1), (.ref r_TIME)]))
      obtain ⟨t, ht, Ft, hjb⟩ : ∃ t, ([(.ref r_DOUBLE), (.ref r_FLOAT), (.ref r_DECIMAL), (.ref r_INTEGER), (.ref r_STRING), (.ref r_ANY_URI), (.ref r_UNTYPED_ATOMIC), (.ref r_BOOLEAN), (.ref r_DATE_TIME), (.ref r_DATE), (.ref r_TIME), (.ref r_YEAR_MONTH_DURATION), (.ref r_DAY_TIME_DURATION), (.ref r_DURATION), (.ref r_G_YEAR_MONTH), (.ref r_G_YEAR), (.ref r_G_MONTH_DAY), (.ref r_G_DAY), (.ref r_G_MONTH), (.ref r_QNAME)] : List Value).getD jj.toNatClampNeg .null = .ref t ∧ Fld Z h0 t "java/lang/Enum" "ordinal" "I" (.int jj) ∧ (¬ jj < 0 ∧ jj < 20) := by
        rcases hj20 with q | q | q | q | q | q | q | q | q | q | q | q | q | q | q | q | q | q | q | q
        · subst q; exact ⟨r_DOUBLE, rfl, F_DOUBLE_ordinal, by decide, by decide⟩
        · subst q; exact ⟨r_FLOAT, rfl, F_FLOAT_ordinal, by decide, by decide⟩
        · subst q; exact ⟨r_DECIMAL, rfl, F_DECIMAL_ordinal, by decide, by decide⟩
        · subst q; exact ⟨r_INTEGER, rfl, F_INTEGER_ordinal, by decide, by decide⟩
        · subst q; exact ⟨r_STRING, rfl, F_STRING_ordinal, by decide, by decide⟩
        · subst q; exact ⟨r_ANY_URI, rfl, F_ANY_URI_ordinal, by decide, by decide⟩
        · subst q; exact ⟨r_UNTYPED_ATOMIC, rfl, F_UNTYPED_ATOMIC_ordinal, by decide, by decide⟩
        · subst q; exact ⟨r_BOOLEAN, rfl, F_BOOLEAN_ordinal, by decide, by decide⟩
        · subst q; exact ⟨r_DATE_TIME, rfl, F_DATE_TIME_ordinal, by decide, by decide⟩
        · subst q; exact ⟨r_DATE, rfl, F_DATE_ordinal, by decide, by decide⟩
        · subst q; exact ⟨r_TIME, rfl, F_TIME_ordinal, by decide, by decide⟩
        · subst q; exact ⟨r_YEAR_MONTH_DURATION, rfl, F_YEAR_MONTH_DURATION_ordinal, by decide, by decide⟩
        · subst q; exact ⟨r_DAY_TIME_DURATION, rfl, F_DAY_TIME_DURATION_ordinal, by decide, by decide⟩
        · subst q; exact ⟨r_DURATION, rfl, F_DURATION_ordinal, by decide, by decide⟩
        · subst q; exact ⟨r_G_YEAR_MONTH, rfl, F_G_YEAR_MONTH_ordinal, by decide, by decide⟩
        · subst q; exact ⟨r_G_YEAR, rfl, F_G_YEAR_ordinal, by decide, by decide⟩
        · subst q; exact ⟨r_G_MONTH_DAY, rfl, F_G_MONTH_DAY_ordinal, by decide, by decide⟩
        · subst q; exact ⟨r_G_DAY, rfl, F_G_DAY_ordinal, by decide, by decide⟩
        · subst q; exact ⟨r_G_MONTH, rfl, F_G_MONTH_ordinal, by decide, by decide⟩
        · subst q; exact ⟨r_QNAME, rfl, F_QNAME_ordinal, by decide, by decide⟩
      have H_TIME : r_TIME = t ↔ jj = (10 : Int32) := ⟨fun q => Value.int.inj (own_fld_eq Ft (q ▸ F_TIME_ordinal)), fun q => by subst q; exact Value.ref.inj ht⟩
      refine own_go (fun _ hr => XS.iload X101.here hx rfl (hb hby at_202) rfl (own_aaload X101 hx hZ e101 f101 jj (.ref t) hjb ht rfl rfl rfl (hb hby at_204) hr)) ?_
      show own_Go p e below _ (T101.setTop (mkF m 205 #[.val (.int x0), .val (.int x1), .val (.ref b1), .val (.int (10 : Int32)), .val (.int jj), .val (.int (1 : Int32))] [(.ref t), (.ref r_TIME)]))
      have K304 := (K98.wr W101 (Or.inr sz3))
      have f305 := (F_TIME_promotion.keep K304 nin0)
      have Z306 := (Nat.le_trans (Nat.le_trans (Nat.le_trans (Nat.le_trans (Nat.le_trans (Nat.le_trans (Nat.le_trans (Nat.le_trans (Nat.le_trans (Nat.le_trans (Nat.le_trans (Nat.le_trans (Nat.le_trans (Nat.le_trans (Nat.le_trans (Nat.le_trans (Nat.le_trans (Nat.le_trans (Nat.le_trans (Nat.le_trans (Nat.le_trans Z0 E1.1) (Nat.le_of_eq W7.size.symm)) (Nat.le_of_eq W11.size.symm)) (Nat.le_of_eq W16.size.symm)) (Nat.le_of_eq W21.size.symm)) (Nat.le_of_eq W26.size.symm)) (Nat.le_of_eq W31.size.symm)) (Nat.le_of_eq W36.size.symm)) (Nat.le_of_eq W41.size.symm)) (Nat.le_of_eq W46.size.symm)) (Nat.le_of_eq W51.size.symm)) (Nat.le_of_eq W56.size.symm)) (Nat.le_of_eq W61.size.symm)) (Nat.le_of_eq W66.size.symm)) (Nat.le_of_eq W71.size.symm)) (Nat.le_of_eq W76.size.symm)) (Nat.le_of_eq W81.size.symm)) (Nat.le_of_eq W86.size.symm)) (Nat.le_of_eq W91.size.symm)) (Nat.le_of_eq W96.size.symm)) (Nat.le_of_eq W101.size.symm))
      have f307 := ((((((((((f57.wr W56).wr W61).wr W66).wr W71).wr W76).wr W81).wr W86).wr W91).wr W96).wr W101)
      refine own_cv X101 hx hZ hown (notFace_of_selects (args := #[]) (mvT hZ (hw _ (own_m 48 rfl)))) (hw _ (own_m 45 rfl)) (hw _ (own_m 46 rfl)) (hw _ (own_m 48 rfl)) (hw _ (own_m 47 rfl)) (hw _ (own_m 3 rfl)) (hw _ (own_m 49 rfl)) (by decide) f307 (rm := { frames := 0, cells := 0, slots := 0, locals := 0 }) (rm_pr10 l Z a0 hw [] r_TIME t jj h101 n0 Z306 f305 H_TIME) (by decide) (W := 0) (by decide) (by decide) (by decide) e101 (by rw [hml]; rfl) (argsL := [(.ref t)]) (lenOf own_pd0 rfl) (rest := []) rfl rfl (Nat.le_of_eq rfl) (hb hby at_205) ?_
      intro _ T303 L303 X303 hQ303
      obtain ⟨rfl, N303q, e303⟩ := hQ303
      have N303 := Fr.app N101 N303q
      show own_Go p e below _ (T303.setTop (mkF m 208 #[.val (.int x0), .val (.int x1), .val (.ref b1), .val (.int (10 : Int32)), .val (.int jj), .val (.int (1 : Int32))] [(.int (own_p10 jj))]))
      refine own_go (fun _ hr => XS.iload X303.here hx rfl (hb hby at_208) rfl hr) ?_
      show own_Go p e below _ (T303.setTop (mkF m 210 #[.val (.int x0), .val (.int x1), .val (.ref b1), .val (.int (10 : Int32)), .val (.int jj), .val (.int (1 : Int32))] [(.int (1 : Int32)), (.int (own_p10 jj))]))
      have c308 : (own_p10 jj) = (1 : Int32) := by
                        have q := hj20
                        have p0 := c302
                        clear hj20 ht Ft hjb
                        simp only [Int32.lt_iff_toInt_lt, ← Int32.toInt_inj, Int32.reduceToInt] at p0
                        rcases q with q | q | q | q | q | q | q | q | q | q | q | q | q | q | q | q | q | q | q | q <;> subst q <;> first | decide | (exfalso; revert p0; decide)
      refine own_go (fun _ hr => XS.icmpNo X303.here hx rfl (hb hby at_210) rfl (teq c308).2 hr) ?_
      show own_Go p e below _ (T303.setTop (mkF m 213 #[.val (.int x0), .val (.int x1), .val (.ref b1), .val (.int (10 : Int32)), .val (.int jj), .val (.int (1 : Int32))] []))
      refine own_go (fun _ hr => XS.iconst X303.here hx rfl (hb hby at_213) (XS.goto X303.here hx rfl (pc0 := 214) (pc' := 218) rfl (hb hby at_214) (by decide) (by decide) hr)) ?_
      show own_Go p e below _ (T303.setTop (mkF m 218 #[.val (.int x0), .val (.int x1), .val (.ref b1), .val (.int (10 : Int32)), .val (.int jj), .val (.int (1 : Int32))] [(.int (1 : Int32))]))
      exact own_retN X303 hx hlk Bd.returns (t := .boolean) (by simp) (hb hby at_218) (by decide) (by decide) ⟨rfl, N303⟩
    refine own_go (fun _ hr => XS.icmpNo X101.here hx rfl (hb hby at_160) rfl (feq c302).1 hr) ?_
    show own_Go p e below _ (T101.setTop (mkF m 163 #[.val (.int x0), .val (.int x1), .val (.ref b1), .val (.int (10 : Int32)), .val (.int jj), .unset] []))
    refine own_go (fun _ hr => XS.iloadN X101.here hx rfl (hb hby at_163) rfl (XS.iconst X101.here hx rfl (hb hby at_164) (XS.icmpYes X101.here hx rfl (pc0 := 165) (pc' := 174) rfl (hb hby at_165) rfl (tlt (by decide)).2.2.1 (by decide) (by decide) (XS.iloadN X101.here hx rfl (hb hby at_174) rfl (XS.iconst X101.here hx rfl (hb hby at_175) (XS.icmpNo X101.here hx rfl (hb hby at_176) rfl (feq (by decide)).1 (XS.iloadN X101.here hx rfl (hb hby at_179) rfl (XS.bipush X101.here hx rfl (hb hby at_180) (XS.icmpYes X101.here hx rfl (pc0 := 182) (pc' := 195) rfl (hb hby at_182) rfl (feq (by decide)).2 (by decide) (by decide) (XS.iconst X101.here hx rfl (hb hby at_195) hr)))))))))) ?_
    show own_Go p e below _ (T101.setTop (mkF m 196 #[.val (.int x0), .val (.int x1), .val (.ref b1), .val (.int (10 : Int32)), .val (.int jj), .unset] [(.int (0 : Int32))]))
    refine own_go (fun _ hr => XS.istore X101.here hx rfl (hb hby at_196) rfl (l' := #[.val (.int x0), .val (.int x1), .val (.ref b1), .val (.int (10 : Int32)), .val (.int jj), .val (.int (0 : Int32))]) rfl (XS.aloadN X101.here hx rfl (hb hby at_198) rfl rfl (XS.iloadN X101.here hx rfl (hb hby at_199) rfl (own_aaload X101 hx hZ e101 f101 (10 : Int32) (.ref r_TIME) ⟨by decide, by decide⟩ rfl rfl rfl rfl (hb hby at_200) (XS.aloadN X101.here hx rfl (hb hby at_201) rfl rfl hr))))) ?_
    show own_Go p e below _ (T101.setTop (mkF m 202 #[.val (.int x0), .val (.int x1), .val (.ref b1), .val (.int (10 : Int32)), .val (.int jj), .val (.int (0 : Int32))] [(.ref b1), (.ref r_TIME)]))
    obtain ⟨t, ht, Ft, hjb⟩ : ∃ t, ([(.ref r_DOUBLE), (.ref r_FLOAT), (.ref r_DECIMAL), (.ref r_INTEGER), (.ref r_STRING), (.ref r_ANY_URI), (.ref r_UNTYPED_ATOMIC), (.ref r_BOOLEAN), (.ref r_DATE_TIME), (.ref r_DATE), (.ref r_TIME), (.ref r_YEAR_MONTH_DURATION), (.ref r_DAY_TIME_DURATION), (.ref r_DURATION), (.ref r_G_YEAR_MONTH), (.ref r_G_YEAR), (.ref r_G_MONTH_DAY), (.ref r_G_DAY), (.ref r_G_MONTH), (.ref r_QNAME)] : List Value).getD jj.toNatClampNeg .null = .ref t ∧ Fld Z h0 t "java/lang/Enum" "ordinal" "I" (.int jj) ∧ (¬ jj < 0 ∧ jj < 20) := by
      rcases hj20 with q | q | q | q | q | q | q | q | q | q | q | q | q | q | q | q | q | q | q | q
      · subst q; exact ⟨r_DOUBLE, rfl, F_DOUBLE_ordinal, by decide, by decide⟩
      · subst q; exact ⟨r_FLOAT, rfl, F_FLOAT_ordinal, by decide, by decide⟩
      · subst q; exact ⟨r_DECIMAL, rfl, F_DECIMAL_ordinal, by decide, by decide⟩
      · subst q; exact ⟨r_INTEGER, rfl, F_INTEGER_ordinal, by decide, by decide⟩
      · subst q; exact ⟨r_STRING, rfl, F_STRING_ordinal, by decide, by decide⟩
      · subst q; exact ⟨r_ANY_URI, rfl, F_ANY_URI_ordinal, by decide, by decide⟩
      · subst q; exact ⟨r_UNTYPED_ATOMIC, rfl, F_UNTYPED_ATOMIC_ordinal, by decide, by decide⟩
      · subst q; exact ⟨r_BOOLEAN, rfl, F_BOOLEAN_ordinal, by decide, by decide⟩
      · subst q; exact ⟨r_DATE_TIME, rfl, F_DATE_TIME_ordinal, by decide, by decide⟩
      · subst q; exact ⟨r_DATE, rfl, F_DATE_ordinal, by decide, by decide⟩
      · subst q; exact ⟨r_TIME, rfl, F_TIME_ordinal, by decide, by decide⟩
      · subst q; exact ⟨r_YEAR_MONTH_DURATION, rfl, F_YEAR_MONTH_DURATION_ordinal, by decide, by decide⟩
      · subst q; exact ⟨r_DAY_TIME_DURATION, rfl, F_DAY_TIME_DURATION_ordinal, by decide, by decide⟩
      · subst q; exact ⟨r_DURATION, rfl, F_DURATION_ordinal, by decide, by decide⟩
      · subst q; exact ⟨r_G_YEAR_MONTH, rfl, F_G_YEAR_MONTH_ordinal, by decide, by decide⟩
      · subst q; exact ⟨r_G_YEAR, rfl, F_G_YEAR_ordinal, by decide, by decide⟩
      · subst q; exact ⟨r_G_MONTH_DAY, rfl, F_G_MONTH_DAY_ordinal, by decide, by decide⟩
      · subst q; exact ⟨r_G_DAY, rfl, F_G_DAY_ordinal, by decide, by decide⟩
      · subst q; exact ⟨r_G_MONTH, rfl, F_G_MONTH_ordinal, by decide, by decide⟩
      · subst q; exact ⟨r_QNAME, rfl, F_QNAME_ordinal, by decide, by decide⟩
    have H_TIME : r_TIME = t ↔ jj = (10 : Int32) := ⟨fun q => Value.int.inj (own_fld_eq Ft (q ▸ F_TIME_ordinal)), fun q => by subst q; exact Value.ref.inj ht⟩
    refine own_go (fun _ hr => XS.iload X101.here hx rfl (hb hby at_202) rfl (own_aaload X101 hx hZ e101 f101 jj (.ref t) hjb ht rfl rfl rfl (hb hby at_204) hr)) ?_
    show own_Go p e below _ (T101.setTop (mkF m 205 #[.val (.int x0), .val (.int x1), .val (.ref b1), .val (.int (10 : Int32)), .val (.int jj), .val (.int (0 : Int32))] [(.ref t), (.ref r_TIME)]))
    have K310 := (K98.wr W101 (Or.inr sz3))
    have f311 := (F_TIME_promotion.keep K310 nin0)
    have Z312 := (Nat.le_trans (Nat.le_trans (Nat.le_trans (Nat.le_trans (Nat.le_trans (Nat.le_trans (Nat.le_trans (Nat.le_trans (Nat.le_trans (Nat.le_trans (Nat.le_trans (Nat.le_trans (Nat.le_trans (Nat.le_trans (Nat.le_trans (Nat.le_trans (Nat.le_trans (Nat.le_trans (Nat.le_trans (Nat.le_trans (Nat.le_trans Z0 E1.1) (Nat.le_of_eq W7.size.symm)) (Nat.le_of_eq W11.size.symm)) (Nat.le_of_eq W16.size.symm)) (Nat.le_of_eq W21.size.symm)) (Nat.le_of_eq W26.size.symm)) (Nat.le_of_eq W31.size.symm)) (Nat.le_of_eq W36.size.symm)) (Nat.le_of_eq W41.size.symm)) (Nat.le_of_eq W46.size.symm)) (Nat.le_of_eq W51.size.symm)) (Nat.le_of_eq W56.size.symm)) (Nat.le_of_eq W61.size.symm)) (Nat.le_of_eq W66.size.symm)) (Nat.le_of_eq W71.size.symm)) (Nat.le_of_eq W76.size.symm)) (Nat.le_of_eq W81.size.symm)) (Nat.le_of_eq W86.size.symm)) (Nat.le_of_eq W91.size.symm)) (Nat.le_of_eq W96.size.symm)) (Nat.le_of_eq W101.size.symm))
    have f313 := ((((((((((f57.wr W56).wr W61).wr W66).wr W71).wr W76).wr W81).wr W86).wr W91).wr W96).wr W101)
    refine own_cv X101 hx hZ hown (notFace_of_selects (args := #[]) (mvT hZ (hw _ (own_m 48 rfl)))) (hw _ (own_m 45 rfl)) (hw _ (own_m 46 rfl)) (hw _ (own_m 48 rfl)) (hw _ (own_m 47 rfl)) (hw _ (own_m 3 rfl)) (hw _ (own_m 49 rfl)) (by decide) f313 (rm := { frames := 0, cells := 0, slots := 0, locals := 0 }) (rm_pr10 l Z a0 hw [] r_TIME t jj h101 n0 Z312 f311 H_TIME) (by decide) (W := 0) (by decide) (by decide) (by decide) e101 (by rw [hml]; rfl) (argsL := [(.ref t)]) (lenOf own_pd0 rfl) (rest := []) rfl rfl (Nat.le_of_eq rfl) (hb hby at_205) ?_
    intro _ T309 L309 X309 hQ309
    obtain ⟨rfl, N309q, e309⟩ := hQ309
    have N309 := Fr.app N101 N309q
    show own_Go p e below _ (T309.setTop (mkF m 208 #[.val (.int x0), .val (.int x1), .val (.ref b1), .val (.int (10 : Int32)), .val (.int jj), .val (.int (0 : Int32))] [(.int (own_p10 jj))]))
    refine own_go (fun _ hr => XS.iload X309.here hx rfl (hb hby at_208) rfl hr) ?_
    show own_Go p e below _ (T309.setTop (mkF m 210 #[.val (.int x0), .val (.int x1), .val (.ref b1), .val (.int (10 : Int32)), .val (.int jj), .val (.int (0 : Int32))] [(.int (0 : Int32)), (.int (own_p10 jj))]))
    have c314 : (own_p10 jj) = (0 : Int32) := by
                        have q := hj20
                        have p0 := c302
                        clear hj20 ht Ft hjb
                        simp only [Int32.lt_iff_toInt_lt, ← Int32.toInt_inj, Int32.reduceToInt] at p0
                        rcases q with q | q | q | q | q | q | q | q | q | q | q | q | q | q | q | q | q | q | q | q <;> subst q <;> first | decide | (exfalso; revert p0; decide)
    refine own_go (fun _ hr => XS.icmpNo X309.here hx rfl (hb hby at_210) rfl (teq c314).2 hr) ?_
    show own_Go p e below _ (T309.setTop (mkF m 213 #[.val (.int x0), .val (.int x1), .val (.ref b1), .val (.int (10 : Int32)), .val (.int jj), .val (.int (0 : Int32))] []))
    refine own_go (fun _ hr => XS.iconst X309.here hx rfl (hb hby at_213) (XS.goto X309.here hx rfl (pc0 := 214) (pc' := 218) rfl (hb hby at_214) (by decide) (by decide) hr)) ?_
    show own_Go p e below _ (T309.setTop (mkF m 218 #[.val (.int x0), .val (.int x1), .val (.ref b1), .val (.int (10 : Int32)), .val (.int jj), .val (.int (0 : Int32))] [(.int (1 : Int32))]))
    exact own_retN X309 hx hlk Bd.returns (t := .boolean) (by simp) (hb hby at_218) (by decide) (by decide) ⟨rfl, N309⟩
  · rw [hk105]
    show own_Go p e below _ (T101.setTop (mkF m 157 #[.val (.int x0), .val (.int x1), .val (.ref b1), .val (.int (11 : Int32)), .val (.int jj), .unset] []))
    refine own_go (fun _ hr => XS.iloadN X101.here hx rfl (hb hby at_157) rfl (XS.iload X101.here hx rfl (hb hby at_158) rfl hr)) ?_
    show own_Go p e below _ (T101.setTop (mkF m 160 #[.val (.int x0), .val (.int x1), .val (.ref b1), .val (.int (11 : Int32)), .val (.int jj), .unset] [(.int jj), (.int (11 : Int32))]))
    by_cases c315 : (11 : Int32) = jj
    · refine own_go (fun _ hr => XS.icmpYes X101.here hx rfl (pc0 := 160) (pc' := 191) rfl (hb hby at_160) rfl (teq c315).1 (by decide) (by decide) hr) ?_
      show own_Go p e below _ (T101.setTop (mkF m 191 #[.val (.int x0), .val (.int x1), .val (.ref b1), .val (.int (11 : Int32)), .val (.int jj), .unset] []))
      refine own_go (fun _ hr => XS.iconst X101.here hx rfl (hb hby at_191) (XS.goto X101.here hx rfl (pc0 := 192) (pc' := 196) rfl (hb hby at_192) (by decide) (by decide) (XS.istore X101.here hx rfl (hb hby at_196) rfl (l' := #[.val (.int x0), .val (.int x1), .val (.ref b1), .val (.int (11 : Int32)), .val (.int jj), .val (.int (1 : Int32))]) rfl (XS.aloadN X101.here hx rfl (hb hby at_198) rfl rfl (XS.iloadN X101.here hx rfl (hb hby at_199) rfl (own_aaload X101 hx hZ e101 f101 (11 : Int32) (.ref r_YEAR_MONTH_DURATION) ⟨by decide, by decide⟩ rfl rfl rfl rfl (hb hby at_200) (XS.aloadN X101.here hx rfl (hb hby at_201) rfl rfl hr))))))) ?_
      show own_Go p e below _ (T101.setTop (mkF m 202 #[.val (.int x0), .val (.int x1), .val (.ref b1), .val (.int (11 : Int32)), .val (.int jj), .val (.int (1 : Int32))] [(.ref b1), (.ref r_YEAR_MONTH_DURATION)]))
      obtain ⟨t, ht, Ft, hjb⟩ : ∃ t, ([(.ref r_DOUBLE), (.ref r_FLOAT), (.ref r_DECIMAL), (.ref r_INTEGER), (.ref r_STRING), (.ref r_ANY_URI), (.ref r_UNTYPED_ATOMIC), (.ref r_BOOLEAN), (.ref r_DATE_TIME), (.ref r_DATE), (.ref r_TIME), (.ref r_YEAR_MONTH_DURATION), (.ref r_DAY_TIME_DURATION), (.ref r_DURATION), (.ref r_G_YEAR_MONTH), (.ref r_G_YEAR), (.ref r_G_MONTH_DAY), (.ref r_G_DAY), (.ref r_G_MONTH), (.ref r_QNAME)] : List Value).getD jj.toNatClampNeg .null = .ref t ∧ Fld Z h0 t "java/lang/Enum" "ordinal" "I" (.int jj) ∧ (¬ jj < 0 ∧ jj < 20) := by
        rcases hj20 with q | q | q | q | q | q | q | q | q | q | q | q | q | q | q | q | q | q | q | q
        · subst q; exact ⟨r_DOUBLE, rfl, F_DOUBLE_ordinal, by decide, by decide⟩
        · subst q; exact ⟨r_FLOAT, rfl, F_FLOAT_ordinal, by decide, by decide⟩
        · subst q; exact ⟨r_DECIMAL, rfl, F_DECIMAL_ordinal, by decide, by decide⟩
        · subst q; exact ⟨r_INTEGER, rfl, F_INTEGER_ordinal, by decide, by decide⟩
        · subst q; exact ⟨r_STRING, rfl, F_STRING_ordinal, by decide, by decide⟩
        · subst q; exact ⟨r_ANY_URI, rfl, F_ANY_URI_ordinal, by decide, by decide⟩
        · subst q; exact ⟨r_UNTYPED_ATOMIC, rfl, F_UNTYPED_ATOMIC_ordinal, by decide, by decide⟩
        · subst q; exact ⟨r_BOOLEAN, rfl, F_BOOLEAN_ordinal, by decide, by decide⟩
        · subst q; exact ⟨r_DATE_TIME, rfl, F_DATE_TIME_ordinal, by decide, by decide⟩
        · subst q; exact ⟨r_DATE, rfl, F_DATE_ordinal, by decide, by decide⟩
        · subst q; exact ⟨r_TIME, rfl, F_TIME_ordinal, by decide, by decide⟩
        · subst q; exact ⟨r_YEAR_MONTH_DURATION, rfl, F_YEAR_MONTH_DURATION_ordinal, by decide, by decide⟩
        · subst q; exact ⟨r_DAY_TIME_DURATION, rfl, F_DAY_TIME_DURATION_ordinal, by decide, by decide⟩
        · subst q; exact ⟨r_DURATION, rfl, F_DURATION_ordinal, by decide, by decide⟩
        · subst q; exact ⟨r_G_YEAR_MONTH, rfl, F_G_YEAR_MONTH_ordinal, by decide, by decide⟩
        · subst q; exact ⟨r_G_YEAR, rfl, F_G_YEAR_ordinal, by decide, by decide⟩
        · subst q; exact ⟨r_G_MONTH_DAY, rfl, F_G_MONTH_DAY_ordinal, by decide, by decide⟩
        · subst q; exact ⟨r_G_DAY, rfl, F_G_DAY_ordinal, by decide, by decide⟩
        · subst q; exact ⟨r_G_MONTH, rfl, F_G_MONTH_ordinal, by decide, by decide⟩
        · subst q; exact ⟨r_QNAME, rfl, F_QNAME_ordinal, by decide, by decide⟩
      have H_YEAR_MONTH_DURATION : r_YEAR_MONTH_DURATION = t ↔ jj = (11 : Int32) := ⟨fun q => Value.int.inj (own_fld_eq Ft (q ▸ F_YEAR_MONTH_DURATION_ordinal)), fun q => by subst q; exact Value.ref.inj ht⟩
      refine own_go (fun _ hr => XS.iload X101.here hx rfl (hb hby at_202) rfl (own_aaload X101 hx hZ e101 f101 jj (.ref t) hjb ht rfl rfl rfl (hb hby at_204) hr)) ?_
      show own_Go p e below _ (T101.setTop (mkF m 205 #[.val (.int x0), .val (.int x1), .val (.ref b1), .val (.int (11 : Int32)), .val (.int jj), .val (.int (1 : Int32))] [(.ref t), (.ref r_YEAR_MONTH_DURATION)]))
      have K317 := (K98.wr W101 (Or.inr sz3))
      have f318 := (F_YEAR_MONTH_DURATION_promotion.keep K317 nin0)
      have Z319 := (Nat.le_trans (Nat.le_trans (Nat.le_trans (Nat.le_trans (Nat.le_trans (Nat.le_trans (Nat.le_trans (Nat.le_trans (Nat.le_trans (Nat.le_trans (Nat.le_trans (Nat.le_trans (Nat.le_trans (Nat.le_trans (Nat.le_trans (Nat.le_trans (Nat.le_trans (Nat.le_trans (Nat.le_trans (Nat.le_trans (Nat.le_trans Z0 E1.1) (Nat.le_of_eq W7.size.symm)) (Nat.le_of_eq W11.size.symm)) (Nat.le_of_eq W16.size.symm)) (Nat.le_of_eq W21.size.symm)) (Nat.le_of_eq W26.size.symm)) (Nat.le_of_eq W31.size.symm)) (Nat.le_of_eq W36.size.symm)) (Nat.le_of_eq W41.size.symm)) (Nat.le_of_eq W46.size.symm)) (Nat.le_of_eq W51.size.symm)) (Nat.le_of_eq W56.size.symm)) (Nat.le_of_eq W61.size.symm)) (Nat.le_of_eq W66.size.symm)) (Nat.le_of_eq W71.size.symm)) (Nat.le_of_eq W76.size.symm)) (Nat.le_of_eq W81.size.symm)) (Nat.le_of_eq W86.size.symm)) (Nat.le_of_eq W91.size.symm)) (Nat.le_of_eq W96.size.symm)) (Nat.le_of_eq W101.size.symm))
      have f320 := (((((((((f62.wr W61).wr W66).wr W71).wr W76).wr W81).wr W86).wr W91).wr W96).wr W101)
      refine own_cv X101 hx hZ hown (notFace_of_selects (args := #[]) (mvT hZ (hw _ (own_m 48 rfl)))) (hw _ (own_m 45 rfl)) (hw _ (own_m 46 rfl)) (hw _ (own_m 48 rfl)) (hw _ (own_m 47 rfl)) (hw _ (own_m 3 rfl)) (hw _ (own_m 49 rfl)) (by decide) f320 (rm := { frames := 0, cells := 0, slots := 0, locals := 0 }) (rm_pr11 l Z a0 hw [] r_YEAR_MONTH_DURATION t jj h101 n0 Z319 f318 H_YEAR_MONTH_DURATION) (by decide) (W := 0) (by decide) (by decide) (by decide) e101 (by rw [hml]; rfl) (argsL := [(.ref t)]) (lenOf own_pd0 rfl) (rest := []) rfl rfl (Nat.le_of_eq rfl) (hb hby at_205) ?_
      intro _ T316 L316 X316 hQ316
      obtain ⟨rfl, N316q, e316⟩ := hQ316
      have N316 := Fr.app N101 N316q
      show own_Go p e below _ (T316.setTop (mkF m 208 #[.val (.int x0), .val (.int x1), .val (.ref b1), .val (.int (11 : Int32)), .val (.int jj), .val (.int (1 : Int32))] [(.int (own_p11 jj))]))
      refine own_go (fun _ hr => XS.iload X316.here hx rfl (hb hby at_208) rfl hr) ?_
      show own_Go p e below _ (T316.setTop (mkF m 210 #[.val (.int x0), .val (.int x1), .val (.ref b1), .val (.int (11 : Int32)), .val (.int jj), .val (.int (1 : Int32))] [(.int (1 : Int32)), (.int (own_p11 jj))]))
      have c321 : (own_p11 jj) = (1 : Int32) := by
                        have q := hj20
                        have p0 := c315
                        clear hj20 ht Ft hjb
                        simp only [Int32.lt_iff_toInt_lt, ← Int32.toInt_inj, Int32.reduceToInt] at p0
                        rcases q with q | q | q | q | q | q | q | q | q | q | q | q | q | q | q | q | q | q | q | q <;> subst q <;> first | decide | (exfalso; revert p0; decide)
      refine own_go (fun _ hr => XS.icmpNo X316.here hx rfl (hb hby at_210) rfl (teq c321).2 hr) ?_
      show own_Go p e below _ (T316.setTop (mkF m 213 #[.val (.int x0), .val (.int x1), .val (.ref b1), .val (.int (11 : Int32)), .val (.int jj), .val (.int (1 : Int32))] []))
      refine own_go (fun _ hr => XS.iconst X316.here hx rfl (hb hby at_213) (XS.goto X316.here hx rfl (pc0 := 214) (pc' := 218) rfl (hb hby at_214) (by decide) (by decide) hr)) ?_
      show own_Go p e below _ (T316.setTop (mkF m 218 #[.val (.int x0), .val (.int x1), .val (.ref b1), .val (.int (11 : Int32)), .val (.int jj), .val (.int (1 : Int32))] [(.int (1 : Int32))]))
      exact own_retN X316 hx hlk Bd.returns (t := .boolean) (by simp) (hb hby at_218) (by decide) (by decide) ⟨rfl, N316⟩
    refine own_go (fun _ hr => XS.icmpNo X101.here hx rfl (hb hby at_160) rfl (feq c315).1 hr) ?_
    show own_Go p e below _ (T101.setTop (mkF m 163 #[.val (.int x0), .val (.int x1), .val (.ref b1), .val (.int (11 : Int32)), .val (.int jj), .unset] []))
    refine own_go (fun _ hr => XS.iloadN X101.here hx rfl (hb hby at_163) rfl (XS.iconst X101.here hx rfl (hb hby at_164) (XS.icmpYes X101.here hx rfl (pc0 := 165) (pc' := 174) rfl (hb hby at_165) rfl (tlt (by decide)).2.2.1 (by decide) (by decide) (XS.iloadN X101.here hx rfl (hb hby at_174) rfl (XS.iconst X101.here hx rfl (hb hby at_175) (XS.icmpNo X101.here hx rfl (hb hby at_176) rfl (feq (by decide)).1 (XS.iloadN X101.here hx rfl (hb hby at_179) rfl (XS.bipush X101.here hx rfl (hb hby at_180) (XS.icmpYes X101.here hx rfl (pc0 := 182) (pc' := 195) rfl (hb hby at_182) rfl (feq (by decide)).2 (by decide) (by decide) (XS.iconst X101.here hx rfl (hb hby at_195) hr)))))))))) ?_
    show own_Go p e below _ (T101.setTop (mkF m 196 #[.val (.int x0), .val (.int x1), .val (.ref b1), .val (.int (11 : Int32)), .val (.int jj), .unset] [(.int (0 : Int32))]))
    refine own_go (fun _ hr => XS.istore X101.here hx rfl (hb hby at_196) rfl (l' := #[.val (.int x0), .val (.int x1), .val (.ref b1), .val (.int (11 : Int32)), .val (.int jj), .val (.int (0 : Int32))]) rfl (XS.aloadN X101.here hx rfl (hb hby at_198) rfl rfl (XS.iloadN X101.here hx rfl (hb hby at_199) rfl (own_aaload X101 hx hZ e101 f101 (11 : Int32) (.ref r_YEAR_MONTH_DURATION) ⟨by decide, by decide⟩ rfl rfl rfl rfl (hb hby at_200) (XS.aloadN X101.here hx rfl (hb hby at_201) rfl rfl hr))))) ?_
    show own_Go p e below _ (T101.setTop (mkF m 202 #[.val (.int x0), .val (.int x1), .val (.ref b1), .val (.int (11 : Int32)), .val (.int jj), .val (.int (0 : Int32))] [(.ref b1), (.ref r_YEAR_MONTH_DURATION)]))
    obtain ⟨t, ht, Ft, hjb⟩ : ∃ t, ([(.ref r_DOUBLE), (.ref r_FLOAT), (.ref r_DECIMAL), (.ref r_INTEGER), (.ref r_STRING), (.ref r_ANY_URI), (.ref r_UNTYPED_ATOMIC), (.ref r_BOOLEAN), (.ref r_DATE_TIME), (.ref r_DATE), (.ref r_TIME), (.ref r_YEAR_MONTH_DURATION), (.ref r_DAY_TIME_DURATION), (.ref r_DURATION), (.ref r_G_YEAR_MONTH), (.ref r_G_YEAR), (.ref r_G_MONTH_DAY), (.ref r_G_DAY), (.ref r_G_MONTH), (.ref r_QNAME)] : List Value).getD jj.toNatClampNeg .null = .ref t ∧ Fld Z h0 t "java/lang/Enum" "ordinal" "I" (.int jj) ∧ (¬ jj < 0 ∧ jj < 20) := by
      rcases hj20 with q | q | q | q | q | q | q | q | q | q | q | q | q | q | q | q | q | q | q | q
      · subst q; exact ⟨r_DOUBLE, rfl, F_DOUBLE_ordinal, by decide, by decide⟩
      · subst q; exact ⟨r_FLOAT, rfl, F_FLOAT_ordinal, by decide, by decide⟩
      · subst q; exact ⟨r_DECIMAL, rfl, F_DECIMAL_ordinal, by decide, by decide⟩
      · subst q; exact ⟨r_INTEGER, rfl, F_INTEGER_ordinal, by decide, by decide⟩
      · subst q; exact ⟨r_STRING, rfl, F_STRING_ordinal, by decide, by decide⟩
      · subst q; exact ⟨r_ANY_URI, rfl, F_ANY_URI_ordinal, by decide, by decide⟩
      · subst q; exact ⟨r_UNTYPED_ATOMIC, rfl, F_UNTYPED_ATOMIC_ordinal, by decide, by decide⟩
      · subst q; exact ⟨r_BOOLEAN, rfl, F_BOOLEAN_ordinal, by decide, by decide⟩
      · subst q; exact ⟨r_DATE_TIME, rfl, F_DATE_TIME_ordinal, by decide, by decide⟩
      · subst q; exact ⟨r_DATE, rfl, F_DATE_ordinal, by decide, by decide⟩
      · subst q; exact ⟨r_TIME, rfl, F_TIME_ordinal, by decide, by decide⟩
      · subst q; exact ⟨r_YEAR_MONTH_DURATION, rfl, F_YEAR_MONTH_DURATION_ordinal, by decide, by decide⟩
      · subst q; exact ⟨r_DAY_TIME_DURATION, rfl, F_DAY_TIME_DURATION_ordinal, by decide, by decide⟩
      · subst q; exact ⟨r_DURATION, rfl, F_DURATION_ordinal, by decide, by decide⟩
      · subst q; exact ⟨r_G_YEAR_MONTH, rfl, F_G_YEAR_MONTH_ordinal, by decide, by decide⟩
      · subst q; exact ⟨r_G_YEAR, rfl, F_G_YEAR_ordinal, by decide, by decide⟩
      · subst q; exact ⟨r_G_MONTH_DAY, rfl, F_G_MONTH_DAY_ordinal, by decide, by decide⟩
      · subst q; exact ⟨r_G_DAY, rfl, F_G_DAY_ordinal, by decide, by decide⟩
      · subst q; exact ⟨r_G_MONTH, rfl, F_G_MONTH_ordinal, by decide, by decide⟩
      · subst q; exact ⟨r_QNAME, rfl, F_QNAME_ordinal, by decide, by decide⟩
    have H_YEAR_MONTH_DURATION : r_YEAR_MONTH_DURATION = t ↔ jj = (11 : Int32) := ⟨fun q => Value.int.inj (own_fld_eq Ft (q ▸ F_YEAR_MONTH_DURATION_ordinal)), fun q => by subst q; exact Value.ref.inj ht⟩
    refine own_go (fun _ hr => XS.iload X101.here hx rfl (hb hby at_202) rfl (own_aaload X101 hx hZ e101 f101 jj (.ref t) hjb ht rfl rfl rfl (hb hby at_204) hr)) ?_
    show own_Go p e below _ (T101.setTop (mkF m 205 #[.val (.int x0), .val (.int x1), .val (.ref b1), .val (.int (11 : Int32)), .val (.int jj), .val (.int (0 : Int32))] [(.ref t), (.ref r_YEAR_MONTH_DURATION)]))
    have K323 := (K98.wr W101 (Or.inr sz3))
    have f324 := (F_YEAR_MONTH_DURATION_promotion.keep K323 nin0)
    have Z325 := (Nat.le_trans (Nat.le_trans (Nat.le_trans (Nat.le_trans (Nat.le_trans (Nat.le_trans (Nat.le_trans (Nat.le_trans (Nat.le_trans (Nat.le_trans (Nat.le_trans (Nat.le_trans (Nat.le_trans (Nat.le_trans (Nat.le_trans (Nat.le_trans (Nat.le_trans (Nat.le_trans (Nat.le_trans (Nat.le_trans (Nat.le_trans Z0 E1.1) (Nat.le_of_eq W7.size.symm)) (Nat.le_of_eq W11.size.symm)) (Nat.le_of_eq W16.size.symm)) (Nat.le_of_eq W21.size.symm)) (Nat.le_of_eq W26.size.symm)) (Nat.le_of_eq W31.size.symm)) (Nat.le_of_eq W36.size.symm)) (Nat.le_of_eq W41.size.symm)) (Nat.le_of_eq W46.size.symm)) (Nat.le_of_eq W51.size.symm)) (Nat.le_of_eq W56.size.symm)) (Nat.le_of_eq W61.size.symm)) (Nat.le_of_eq W66.size.symm)) (Nat.le_of_eq W71.size.symm)) (Nat.le_of_eq W76.size.symm)) (Nat.le_of_eq W81.size.symm)) (Nat.le_of_eq W86.size.symm)) (Nat.le_of_eq W91.size.symm)) (Nat.le_of_eq W96.size.symm)) (Nat.le_of_eq W101.size.symm))
    have f326 := (((((((((f62.wr W61).wr W66).wr W71).wr W76).wr W81).wr W86).wr W91).wr W96).wr W101)
    refine own_cv X101 hx hZ hown (notFace_of_selects (args := #[]) (mvT hZ (hw _ (own_m 48 rfl)))) (hw _ (own_m 45 rfl)) (hw _ (own_m 46 rfl)) (hw _ (own_m 48 rfl)) (hw _ (own_m 47 rfl)) (hw _ (own_m 3 rfl)) (hw _ (own_m 49 rfl)) (by decide) f326 (rm := { frames := 0, cells := 0, slots := 0, locals := 0 }) (rm_pr11 l Z a0 hw [] r_YEAR_MONTH_DURATION t jj h101 n0 Z325 f324 H_YEAR_MONTH_DURATION) (by decide) (W := 0) (by decide) (by decide) (by decide) e101 (by rw [hml]; rfl) (argsL := [(.ref t)]) (lenOf own_pd0 rfl) (rest := []) rfl rfl (Nat.le_of_eq rfl) (hb hby at_205) ?_
    intro _ T322 L322 X322 hQ322
    obtain ⟨rfl, N322q, e322⟩ := hQ322
    have N322 := Fr.app N101 N322q
    show own_Go p e below _ (T322.setTop (mkF m 208 #[.val (.int x0), .val (.int x1), .val (.ref b1), .val (.int (11 : Int32)), .val (.int jj), .val (.int (0 : Int32))] [(.int (own_p11 jj))]))
    refine own_go (fun _ hr => XS.iload X322.here hx rfl (hb hby at_208) rfl hr) ?_
    show own_Go p e below _ (T322.setTop (mkF m 210 #[.val (.int x0), .val (.int x1), .val (.ref b1), .val (.int (11 : Int32)), .val (.int jj), .val (.int (0 : Int32))] [(.int (0 : Int32)), (.int (own_p11 jj))]))
    have c327 : (own_p11 jj) = (0 : Int32) := by
                        have q := hj20
                        have p0 := c315
                        clear hj20 ht Ft hjb
                        simp only [Int32.lt_iff_toInt_lt, ← Int32.toInt_inj, Int32.reduceToInt] at p0
                        rcases q with q | q | q | q | q | q | q | q | q | q | q | q | q | q | q | q | q | q | q | q <;> subst q <;> first | decide | (exfalso; revert p0; decide)
    refine own_go (fun _ hr => XS.icmpNo X322.here hx rfl (hb hby at_210) rfl (teq c327).2 hr) ?_
    show own_Go p e below _ (T322.setTop (mkF m 213 #[.val (.int x0), .val (.int x1), .val (.ref b1), .val (.int (11 : Int32)), .val (.int jj), .val (.int (0 : Int32))] []))
    refine own_go (fun _ hr => XS.iconst X322.here hx rfl (hb hby at_213) (XS.goto X322.here hx rfl (pc0 := 214) (pc' := 218) rfl (hb hby at_214) (by decide) (by decide) hr)) ?_
    show own_Go p e below _ (T322.setTop (mkF m 218 #[.val (.int x0), .val (.int x1), .val (.ref b1), .val (.int (11 : Int32)), .val (.int jj), .val (.int (0 : Int32))] [(.int (1 : Int32))]))
    exact own_retN X322 hx hlk Bd.returns (t := .boolean) (by simp) (hb hby at_218) (by decide) (by decide) ⟨rfl, N322⟩
  · rw [hk105]
    show own_Go p e below _ (T101.setTop (mkF m 157 #[.val (.int x0), .val (.int x1), .val (.ref b1), .val (.int (12 : Int32)), .val (.int jj), .unset] []))
    refine own_go (fun _ hr => XS.iloadN X101.here hx rfl (hb hby at_157) rfl (XS.iload X101.here hx rfl (hb hby at_158) rfl hr)) ?_
    show own_Go p e below _ (T101.setTop (mkF m 160 #[.val (.int x0), .val (.int x1), .val (.ref b1), .val (.int (12 : Int32)), .val (.int jj), .unset] [(.int jj), (.int (12 : Int32))]))
    by_cases c328 : (12 : Int32) = jj
    · refine own_go (fun _ hr => XS.icmpYes X101.here hx rfl (pc0 := 160) (pc' := 191) rfl (hb hby at_160) rfl (teq c328).1 (by decide) (by decide) hr) ?_
      show own_Go p e below _ (T101.setTop (mkF m 191 #[.val (.int x0), .val (.int x1), .val (.ref b1), .val (.int (12 : Int32)), .val (.int jj), .unset] []))
      refine own_go (fun _ hr => XS.iconst X101.here hx rfl (hb hby at_191) (XS.goto X101.here hx rfl (pc0 := 192) (pc' := 196) rfl (hb hby at_192) (by decide) (by decide) (XS.istore X101.here hx rfl (hb hby at_196) rfl (l' := #[.val (.int x0), .val (.int x1), .val (.ref b1), .val (.int (12 : Int32)), .val (.int jj), .val (.int (1 : Int32))]) rfl (XS.aloadN X101.here hx rfl (hb hby at_198) rfl rfl (XS.iloadN X101.here hx rfl (hb hby at_199) rfl (own_aaload X101 hx hZ e101 f101 (12 : Int32) (.ref r_DAY_TIME_DURATION) ⟨by decide, by decide⟩ rfl rfl rfl rfl (hb hby at_200) (XS.aloadN X101.here hx rfl (hb hby at_201) rfl rfl hr))))))) ?_
      show own_Go p e below _ (T101.setTop (mkF m 202 #[.val (.int x0), .val (.int x1), .val (.ref b1), .val (.int (12 : Int32)), .val (.int jj), .val (.int (1 : Int32))] [(.ref b1), (.ref r_DAY_TIME_DURATION)]))
      obtain ⟨t, ht, Ft, hjb⟩ : ∃ t, ([(.ref r_DOUBLE), (.ref r_FLOAT), (.ref r_DECIMAL), (.ref r_INTEGER), (.ref r_STRING), (.ref r_ANY_URI), (.ref r_UNTYPED_ATOMIC), (.ref r_BOOLEAN), (.ref r_DATE_TIME), (.ref r_DATE), (.ref r_TIME), (.ref r_YEAR_MONTH_DURATION), (.ref r_DAY_TIME_DURATION), (.ref r_DURATION), (.ref r_G_YEAR_MONTH), (.ref r_G_YEAR), (.ref r_G_MONTH_DAY), (.ref r_G_DAY), (.ref r_G_MONTH), (.ref r_QNAME)] : List Value).getD jj.toNatClampNeg .null = .ref t ∧ Fld Z h0 t "java/lang/Enum" "ordinal" "I" (.int jj) ∧ (¬ jj < 0 ∧ jj < 20) := by
        rcases hj20 with q | q | q | q | q | q | q | q | q | q | q | q | q | q | q | q | q | q | q | q
        · subst q; exact ⟨r_DOUBLE, rfl, F_DOUBLE_ordinal, by decide, by decide⟩
        · subst q; exact ⟨r_FLOAT, rfl, F_FLOAT_ordinal, by decide, by decide⟩
        · subst q; exact ⟨r_DECIMAL, rfl, F_DECIMAL_ordinal, by decide, by decide⟩
        · subst q; exact ⟨r_INTEGER, rfl, F_INTEGER_ordinal, by decide, by decide⟩
        · subst q; exact ⟨r_STRING, rfl, F_STRING_ordinal, by decide, by decide⟩
        · subst q; exact ⟨r_ANY_URI, rfl, F_ANY_URI_ordinal, by decide, by decide⟩
        · subst q; exact ⟨r_UNTYPED_ATOMIC, rfl, F_UNTYPED_ATOMIC_ordinal, by decide, by decide⟩
        · subst q; exact ⟨r_BOOLEAN, rfl, F_BOOLEAN_ordinal, by decide, by decide⟩
        · subst q; exact ⟨r_DATE_TIME, rfl, F_DATE_TIME_ordinal, by decide, by decide⟩
        · subst q; exact ⟨r_DATE, rfl, F_DATE_ordinal, by decide, by decide⟩
        · subst q; exact ⟨r_TIME, rfl, F_TIME_ordinal, by decide, by decide⟩
        · subst q; exact ⟨r_YEAR_MONTH_DURATION, rfl, F_YEAR_MONTH_DURATION_ordinal, by decide, by decide⟩
        · subst q; exact ⟨r_DAY_TIME_DURATION, rfl, F_DAY_TIME_DURATION_ordinal, by decide, by decide⟩
        · subst q; exact ⟨r_DURATION, rfl, F_DURATION_ordinal, by decide, by decide⟩
        · subst q; exact ⟨r_G_YEAR_MONTH, rfl, F_G_YEAR_MONTH_ordinal, by decide, by decide⟩
        · subst q; exact ⟨r_G_YEAR, rfl, F_G_YEAR_ordinal, by decide, by decide⟩
        · subst q; exact ⟨r_G_MONTH_DAY, rfl, F_G_MONTH_DAY_ordinal, by decide, by decide⟩
        · subst q; exact ⟨r_G_DAY, rfl, F_G_DAY_ordinal, by decide, by decide⟩
        · subst q; exact ⟨r_G_MONTH, rfl, F_G_MONTH_ordinal, by decide, by decide⟩
        · subst q; exact ⟨r_QNAME, rfl, F_QNAME_ordinal, by decide, by decide⟩
      have H_DAY_TIME_DURATION : r_DAY_TIME_DURATION = t ↔ jj = (12 : Int32) := ⟨fun q => Value.int.inj (own_fld_eq Ft (q ▸ F_DAY_TIME_DURATION_ordinal)), fun q => by subst q; exact Value.ref.inj ht⟩
      refine own_go (fun _ hr => XS.iload X101.here hx rfl (hb hby at_202) rfl (own_aaload X101 hx hZ e101 f101 jj (.ref t) hjb ht rfl rfl rfl (hb hby at_204) hr)) ?_
      show own_Go p e below _ (T101.setTop (mkF m 205 #[.val (.int x0), .val (.int x1), .val (.ref b1), .val (.int (12 : Int32)), .val (.int jj), .val (.int (1 : Int32))] [(.ref t), (.ref r_DAY_TIME_DURATION)]))
      have K330 := (K98.wr W101 (Or.inr sz3))
      have f331 := (F_DAY_TIME_DURATION_promotion.keep K330 nin0)
      have Z332 := (Nat.le_trans (Nat.le_trans (Nat.le_trans (Nat.le_trans (Nat.le_trans (Nat.le_trans (Nat.le_trans (Nat.le_trans (Nat.le_trans (Nat.le_trans (Nat.le_trans (Nat.le_trans (Nat.le_trans (Nat.le_trans (Nat.le_trans (Nat.le_trans (Nat.le_trans (Nat.le_trans (Nat.le_trans (Nat.le_trans (Nat.le_trans Z0 E1.1) (Nat.le_of_eq W7.size.symm)) (Nat.le_of_eq W11.size.symm)) (Nat.le_of_eq W16.size.symm)) (Nat.le_of_eq W21.size.symm)) (Nat.le_of_eq W26.size.symm)) (Nat.le_of_eq W31.size.symm)) (Nat.le_of_eq W36.size.symm)) (Nat.le_of_eq W41.size.symm)) (Nat.le_of_eq W46.size.symm)) (Nat.le_of_eq W51.size.symm)) (Nat.le_of_eq W56.size.symm)) (Nat.le_of_eq W61.size.symm)) (Nat.le_of_eq W66.size.symm)) (Nat.le_of_eq W71.size.symm)) (Nat.le_of_eq W76.size.symm)) (Nat.le_of_eq W81.size.symm)) (Nat.le_of_eq W86.size.symm)) (Nat.le_of_eq W91.size.symm)) (Nat.le_of_eq W96.size.symm)) (Nat.le_of_eq W101.size.symm))
      have f333 := ((((((((f67.wr W66).wr W71).wr W76).wr W81).wr W86).wr W91).wr W96).wr W101)
      refine own_cv X101 hx hZ hown (notFace_of_selects (args := #[]) (mvT hZ (hw _ (own_m 48 rfl)))) (hw _ (own_m 45 rfl)) (hw _ (own_m 46 rfl)) (hw _ (own_m 48 rfl)) (hw _ (own_m 47 rfl)) (hw _ (own_m 3 rfl)) (hw _ (own_m 49 rfl)) (by decide) f333 (rm := { frames := 0, cells := 0, slots := 0, locals := 0 }) (rm_pr12 l Z a0 hw [] r_DAY_TIME_DURATION t jj h101 n0 Z332 f331 H_DAY_TIME_DURATION) (by decide) (W := 0) (by decide) (by decide) (by decide) e101 (by rw [hml]; rfl) (argsL := [(.ref t)]) (lenOf own_pd0 rfl) (rest := []) rfl rfl (Nat.le_of_eq rfl) (hb hby at_205) ?_
      intro _ T329 L329 X329 hQ329
      obtain ⟨rfl, N329q, e329⟩ := hQ329
      have N329 := Fr.app N101 N329q
      show own_Go p e below _ (T329.setTop (mkF m 208 #[.val (.int x0), .val (.int x1), .val (.ref b1), .val (.int (12 : Int32)), .val (.int jj), .val (.int (1 : Int32))] [(.int (own_p12 jj))]))
      refine own_go (fun _ hr => XS.iload X329.here hx rfl (hb hby at_208) rfl hr) ?_
      show own_Go p e below _ (T329.setTop (mkF m 210 #[.val (.int x0), .val (.int x1), .val (.ref b1), .val (.int (12 : Int32)), .val (.int jj), .val (.int (1 : Int32))] [(.int (1 : Int32)), (.int (own_p12 jj))]))
      have c334 : (own_p12 jj) = (1 : Int32) := by
                        have q := hj20
                        have p0 := c328
                        clear hj20 ht Ft hjb
                        simp only [Int32.lt_iff_toInt_lt, ← Int32.toInt_inj, Int32.reduceToInt] at p0
                        rcases q with q | q | q | q | q | q | q | q | q | q | q | q | q | q | q | q | q | q | q | q <;> subst q <;> first | decide | (exfalso; revert p0; decide)
      refine own_go (fun _ hr => XS.icmpNo X329.here hx rfl (hb hby at_210) rfl (teq c334).2 hr) ?_
      show own_Go p e below _ (T329.setTop (mkF m 213 #[.val (.int x0), .val (.int x1), .val (.ref b1), .val (.int (12 : Int32)), .val (.int jj), .val (.int (1 : Int32))] []))
      refine own_go (fun _ hr => XS.iconst X329.here hx rfl (hb hby at_213) (XS.goto X329.here hx rfl (pc0 := 214) (pc' := 218) rfl (hb hby at_214) (by decide) (by decide) hr)) ?_
      show own_Go p e below _ (T329.setTop (mkF m 218 #[.val (.int x0), .val (.int x1), .val (.ref b1), .val (.int (12 : Int32)), .val (.int jj), .val (.int (1 : Int32))] [(.int (1 : Int32))]))
      exact own_retN X329 hx hlk Bd.returns (t := .boolean) (by simp) (hb hby at_218) (by decide) (by decide) ⟨rfl, N329⟩
    refine own_go (fun _ hr => XS.icmpNo X101.here hx rfl (hb hby at_160) rfl (feq c328).1 hr) ?_
    show own_Go p e below _ (T101.setTop (mkF m 163 #[.val (.int x0), .val (.int x1), .val (.ref b1), .val (.int (12 : Int32)), .val (.int jj), .unset] []))
    refine own_go (fun _ hr => XS.iloadN X101.here hx rfl (hb hby at_163) rfl (XS.iconst X101.here hx rfl (hb hby at_164) (XS.icmpYes X101.here hx rfl (pc0 := 165) (pc' := 174) rfl (hb hby at_165) rfl (tlt (by decide)).2.2.1 (by decide) (by decide) (XS.iloadN X101.here hx rfl (hb hby at_174) rfl (XS.iconst X101.here hx rfl (hb hby at_175) (XS.icmpNo X101.here hx rfl (hb hby at_176) rfl (feq (by decide)).1 (XS.iloadN X101.here hx rfl (hb hby at_179) rfl (XS.bipush X101.here hx rfl (hb hby at_180) (XS.icmpYes X101.here hx rfl (pc0 := 182) (pc' := 195) rfl (hb hby at_182) rfl (feq (by decide)).2 (by decide) (by decide) (XS.iconst X101.here hx rfl (hb hby at_195) hr)))))))))) ?_
    show own_Go p e below _ (T101.setTop (mkF m 196 #[.val (.int x0), .val (.int x1), .val (.ref b1), .val (.int (12 : Int32)), .val (.int jj), .unset] [(.int (0 : Int32))]))
    refine own_go (fun _ hr => XS.istore X101.here hx rfl (hb hby at_196) rfl (l' := #[.val (.int x0), .val (.int x1), .val (.ref b1), .val (.int (12 : Int32)), .val (.int jj), .val (.int (0 : Int32))]) rfl (XS.aloadN X101.here hx rfl (hb hby at_198) rfl rfl (XS.iloadN X101.here hx rfl (hb hby at_199) rfl (own_aaload X101 hx hZ e101 f101 (12 : Int32) (.ref r_DAY_TIME_DURATION) ⟨by decide, by decide⟩ rfl rfl rfl rfl (hb hby at_200) (XS.aloadN X101.here hx rfl (hb hby at_201) rfl rfl hr))))) ?_
    show own_Go p e below _ (T101.setTop (mkF m 202 #[.val (.int x0), .val (.int x1), .val (.ref b1), .val (.int (12 : Int32)), .val (.int jj), .val (.int (0 : Int32))] [(.ref b1), (.ref r_DAY_TIME_DURATION)]))
    obtain ⟨t, ht, Ft, hjb⟩ : ∃ t, ([(.ref r_DOUBLE), (.ref r_FLOAT), (.ref r_DECIMAL), (.ref r_INTEGER), (.ref r_STRING), (.ref r_ANY_URI), (.ref r_UNTYPED_ATOMIC), (.ref r_BOOLEAN), (.ref r_DATE_TIME), (.ref r_DATE), (.ref r_TIME), (.ref r_YEAR_MONTH_DURATION), (.ref r_DAY_TIME_DURATION), (.ref r_DURATION), (.ref r_G_YEAR_MONTH), (.ref r_G_YEAR), (.ref r_G_MONTH_DAY), (.ref r_G_DAY), (.ref r_G_MONTH), (.ref r_QNAME)] : List Value).getD jj.toNatClampNeg .null = .ref t ∧ Fld Z h0 t "java/lang/Enum" "ordinal" "I" (.int jj) ∧ (¬ jj < 0 ∧ jj < 20) := by
      rcases hj20 with q | q | q | q | q | q | q | q | q | q | q | q | q | q | q | q | q | q | q | q
      · subst q; exact ⟨r_DOUBLE, rfl, F_DOUBLE_ordinal, by decide, by decide⟩
      · subst q; exact ⟨r_FLOAT, rfl, F_FLOAT_ordinal, by decide, by decide⟩
      · subst q; exact ⟨r_DECIMAL, rfl, F_DECIMAL_ordinal, by decide, by decide⟩
      · subst q; exact ⟨r_INTEGER, rfl, F_INTEGER_ordinal, by decide, by decide⟩
      · subst q; exact ⟨r_STRING, rfl, F_STRING_ordinal, by decide, by decide⟩
      · subst q; exact ⟨r_ANY_URI, rfl, F_ANY_URI_ordinal, by decide, by decide⟩
      · subst q; exact ⟨r_UNTYPED_ATOMIC, rfl, F_UNTYPED_ATOMIC_ordinal, by decide, by decide⟩
      · subst q; exact ⟨r_BOOLEAN, rfl, F_BOOLEAN_ordinal, by decide, by decide⟩
      · subst q; exact ⟨r_DATE_TIME, rfl, F_DATE_TIME_ordinal, by decide, by decide⟩
      · subst q; exact ⟨r_DATE, rfl, F_DATE_ordinal, by decide, by decide⟩
      · subst q; exact ⟨r_TIME, rfl, F_TIME_ordinal, by decide, by decide⟩
      · subst q; exact ⟨r_YEAR_MONTH_DURATION, rfl, F_YEAR_MONTH_DURATION_ordinal, by decide, by decide⟩
      · subst q; exact ⟨r_DAY_TIME_DURATION, rfl, F_DAY_TIME_DURATION_ordinal, by decide, by decide⟩
      · subst q; exact ⟨r_DURATION, rfl, F_DURATION_ordinal, by decide, by decide⟩
      · subst q; exact ⟨r_G_YEAR_MONTH, rfl, F_G_YEAR_MONTH_ordinal, by decide, by decide⟩
      · subst q; exact ⟨r_G_YEAR, rfl, F_G_YEAR_ordinal, by decide, by decide⟩
      · subst q; exact ⟨r_G_MONTH_DAY, rfl, F_G_MONTH_DAY_ordinal, by decide, by decide⟩
      · subst q; exact ⟨r_G_DAY, rfl, F_G_DAY_ordinal, by decide, by decide⟩
      · subst q; exact ⟨r_G_MONTH, rfl, F_G_MONTH_ordinal, by decide, by decide⟩
      · subst q; exact ⟨r_QNAME, rfl, F_QNAME_ordinal, by decide, by decide⟩
    have H_DAY_TIME_DURATION : r_DAY_TIME_DURATION = t ↔ jj = (12 : Int32) := ⟨fun q => Value.int.inj (own_fld_eq Ft (q ▸ F_DAY_TIME_DURATION_ordinal)), fun q => by subst q; exact Value.ref.inj ht⟩
    refine own_go (fun _ hr => XS.iload X101.here hx rfl (hb hby at_202) rfl (own_aaload X101 hx hZ e101 f101 jj (.ref t) hjb ht rfl rfl rfl (hb hby at_204) hr)) ?_
    show own_Go p e below _ (T101.setTop (mkF m 205 #[.val (.int x0), .val (.int x1), .val (.ref b1), .val (.int (12 : Int32)), .val (.int jj), .val (.int (0 : Int32))] [(.ref t), (.ref r_DAY_TIME_DURATION)]))
    have K336 := (K98.wr W101 (Or.inr sz3))
    have f337 := (F_DAY_TIME_DURATION_promotion.keep K336 nin0)
    have Z338 := (Nat.le_trans (Nat.le_trans (Nat.le_trans (Nat.le_trans (Nat.le_trans (Nat.le_trans (Nat.le_trans (Nat.le_trans (Nat.le_trans (Nat.le_trans (Nat.le_trans (Nat.le_trans (Nat.le_trans (Nat.le_trans (Nat.le_trans (Nat.le_trans (Nat.le_trans (Nat.le_trans (Nat.le_trans (Nat.le_trans (Nat.le_trans Z0 E1.1) (Nat.le_of_eq W7.size.symm)) (Nat.le_of_eq W11.size.symm)) (Nat.le_of_eq W16.size.symm)) (Nat.le_of_eq W21.size.symm)) (Nat.le_of_eq W26.size.symm)) (Nat.le_of_eq W31.size.symm)) (Nat.le_of_eq W36.size.symm)) (Nat.le_of_eq W41.size.symm)) (Nat.le_of_eq W46.size.symm)) (Nat.le_of_eq W51.size.symm)) (Nat.le_of_eq W56.size.symm)) (Nat.le_of_eq W61.size.symm)) (Nat.le_of_eq W66.size.symm)) (Nat.le_of_eq W71.size.symm)) (Nat.le_of_eq W76.size.symm)) (Nat.le_of_eq W81.size.symm)) (Nat.le_of_eq W86.size.symm)) (Nat.le_of_eq W91.size.symm)) (Nat.le_of_eq W96.size.symm)) (Nat.le_of_eq W101.size.symm))
    have f339 := ((((((((f67.wr W66).wr W71).wr W76).wr W81).wr W86).wr W91).wr W96).wr W101)
    refine own_cv X101 hx hZ hown (notFace_of_selects (args := #[]) (mvT hZ (hw _ (own_m 48 rfl)))) (hw _ (own_m 45 rfl)) (hw _ (own_m 46 rfl)) (hw _ (own_m 48 rfl)) (hw _ (own_m 47 rfl)) (hw _ (own_m 3 rfl)) (hw _ (own_m 49 rfl)) (by decide) f339 (rm := { frames := 0, cells := 0, slots := 0, locals := 0 }) (rm_pr12 l Z a0 hw [] r_DAY_TIME_DURATION t jj h101 n0 Z338 f337 H_DAY_TIME_DURATION) (by decide) (W := 0) (by decide) (by decide) (by decide) e101 (by rw [hml]; rfl) (argsL := [(.ref t)]) (lenOf own_pd0 rfl) (rest := []) rfl rfl (Nat.le_of_eq rfl) (hb hby at_205) ?_
    intro _ T335 L335 X335 hQ335
    obtain ⟨rfl, N335q, e335⟩ := hQ335
    have N335 := Fr.app N101 N335q
    show own_Go p e below _ (T335.setTop (mkF m 208 #[.val (.int x0), .val (.int x1), .val (.ref b1), .val (.int (12 : Int32)), .val (.int jj), .val (.int (0 : Int32))] [(.int (own_p12 jj))]))
    refine own_go (fun _ hr => XS.iload X335.here hx rfl (hb hby at_208) rfl hr) ?_
    show own_Go p e below _ (T335.setTop (mkF m 210 #[.val (.int x0), .val (.int x1), .val (.ref b1), .val (.int (12 : Int32)), .val (.int jj), .val (.int (0 : Int32))] [(.int (0 : Int32)), (.int (own_p12 jj))]))
    have c340 : (own_p12 jj) = (0 : Int32) := by
                        have q := hj20
                        have p0 := c328
                        clear hj20 ht Ft hjb
                        simp only [Int32.lt_iff_toInt_lt, ← Int32.toInt_inj, Int32.reduceToInt] at p0
                        rcases q with q | q | q | q | q | q | q | q | q | q | q | q | q | q | q | q | q | q | q | q <;> subst q <;> first | decide | (exfalso; revert p0; decide)
    refine own_go (fun _ hr => XS.icmpNo X335.here hx rfl (hb hby at_210) rfl (teq c340).2 hr) ?_
    show own_Go p e below _ (T335.setTop (mkF m 213 #[.val (.int x0), .val (.int x1), .val (.ref b1), .val (.int (12 : Int32)), .val (.int jj), .val (.int (0 : Int32))] []))
    refine own_go (fun _ hr => XS.iconst X335.here hx rfl (hb hby at_213) (XS.goto X335.here hx rfl (pc0 := 214) (pc' := 218) rfl (hb hby at_214) (by decide) (by decide) hr)) ?_
    show own_Go p e below _ (T335.setTop (mkF m 218 #[.val (.int x0), .val (.int x1), .val (.ref b1), .val (.int (12 : Int32)), .val (.int jj), .val (.int (0 : Int32))] [(.int (1 : Int32))]))
    exact own_retN X335 hx hlk Bd.returns (t := .boolean) (by simp) (hb hby at_218) (by decide) (by decide) ⟨rfl, N335⟩
  · rw [hk105]
    show own_Go p e below _ (T101.setTop (mkF m 157 #[.val (.int x0), .val (.int x1), .val (.ref b1), .val (.int (13 : Int32)), .val (.int jj), .unset] []))
    refine own_go (fun _ hr => XS.iloadN X101.here hx rfl (hb hby at_157) rfl (XS.iload X101.here hx rfl (hb hby at_158) rfl hr)) ?_
    show own_Go p e below _ (T101.setTop (mkF m 160 #[.val (.int x0), .val (.int x1), .val (.ref b1), .val (.int (13 : Int32)), .val (.int jj), .unset] [(.int jj), (.int (13 : Int32))]))
    by_cases c341 : (13 : Int32) = jj
    · refine own_go (fun _ hr => XS.icmpYes X101.here hx rfl (pc0 := 160) (pc' := 191) rfl (hb hby at_160) rfl (teq c341).1 (by decide) (by decide) hr) ?_
      show own_Go p e below _ (T101.setTop (mkF m 191 #[.val (.int x0), .val (.int x1), .val (.ref b1), .val (.int (13 : Int32)), .val (.int jj), .unset] []))
      refine own_go (fun _ hr => XS.iconst X101.here hx rfl (hb hby at_191) (XS.goto X101.here hx rfl (pc0 := 192) (pc' := 196) rfl (hb hby at_192) (by decide) (by decide) (XS.istore X101.here hx rfl (hb hby at_196) rfl (l' := #[.val (.int x0), .val (.int x1), .val (.ref b1), .val (.int (13 : Int32)), .val (.int jj), .val (.int (1 : Int32))]) rfl (XS.aloadN X101.here hx rfl (hb hby at_198) rfl rfl (XS.iloadN X101.here hx rfl (hb hby at_199) rfl (own_aaload X101 hx hZ e101 f101 (13 : Int32) (.ref r_DURATION) ⟨by decide, by decide⟩ rfl rfl rfl rfl (hb hby at_200) (XS.aloadN X101.here hx rfl (hb hby at_201) rfl rfl hr))))))) ?_
      show own_Go p e below _ (T101.setTop (mkF m 202 #[.val (.int x0), .val (.int x1), .val (.ref b1), .val (.int (13 : Int32)), .val (.int jj), .val (.int (1 : Int32))] [(.ref b1), (.ref r_DURATION)]))
      obtain ⟨t, ht, Ft, hjb⟩ : ∃ t, ([(.ref r_DOUBLE), (.ref r_FLOAT), (.ref r_DECIMAL), (.ref r_INTEGER), (.ref r_STRING), (.ref r_ANY_URI), (.ref r_UNTYPED_ATOMIC), (.ref r_BOOLEAN), (.ref r_DATE_TIME), (.ref r_DATE), (.ref r_TIME), (.ref r_YEAR_MONTH_DURATION), (.ref r_DAY_TIME_DURATION), (.ref r_DURATION), (.ref r_G_YEAR_MONTH), (.ref r_G_YEAR), (.ref r_G_MONTH_DAY), (.ref r_G_DAY), (.ref r_G_MONTH), (.ref r_QNAME)] : List Value).getD jj.toNatClampNeg .null = .ref t ∧ Fld Z h0 t "java/lang/Enum" "ordinal" "I" (.int jj) ∧ (¬ jj < 0 ∧ jj < 20) := by
        rcases hj20 with q | q | q | q | q | q | q | q | q | q | q | q | q | q | q | q | q | q | q | q
        · subst q; exact ⟨r_DOUBLE, rfl, F_DOUBLE_ordinal, by decide, by decide⟩
        · subst q; exact ⟨r_FLOAT, rfl, F_FLOAT_ordinal, by decide, by decide⟩
        · subst q; exact ⟨r_DECIMAL, rfl, F_DECIMAL_ordinal, by decide, by decide⟩
        · subst q; exact ⟨r_INTEGER, rfl, F_INTEGER_ordinal, by decide, by decide⟩
        · subst q; exact ⟨r_STRING, rfl, F_STRING_ordinal, by decide, by decide⟩
        · subst q; exact ⟨r_ANY_URI, rfl, F_ANY_URI_ordinal, by decide, by decide⟩
        · subst q; exact ⟨r_UNTYPED_ATOMIC, rfl, F_UNTYPED_ATOMIC_ordinal, by decide, by decide⟩
        · subst q; exact ⟨r_BOOLEAN, rfl, F_BOOLEAN_ordinal, by decide, by decide⟩
        · subst q; exact ⟨r_DATE_TIME, rfl, F_DATE_TIME_ordinal, by decide, by decide⟩
        · subst q; exact ⟨r_DATE, rfl, F_DATE_ordinal, by decide, by decide⟩
        · subst q; exact ⟨r_TIME, rfl, F_TIME_ordinal, by decide, by decide⟩
        · subst q; exact ⟨r_YEAR_MONTH_DURATION, rfl, F_YEAR_MONTH_DURATION_ordinal, by decide, by decide⟩
        · subst q; exact ⟨r_DAY_TIME_DURATION, rfl, F_DAY_TIME_DURATION_ordinal, by decide, by decide⟩
        · subst q; exact ⟨r_DURATION, rfl, F_DURATION_ordinal, by decide, by decide⟩
        · subst q; exact ⟨r_G_YEAR_MONTH, rfl, F_G_YEAR_MONTH_ordinal, by decide, by decide⟩
        · subst q; exact ⟨r_G_YEAR, rfl, F_G_YEAR_ordinal, by decide, by decide⟩
        · subst q; exact ⟨r_G_MONTH_DAY, rfl, F_G_MONTH_DAY_ordinal, by decide, by decide⟩
        · subst q; exact ⟨r_G_DAY, rfl, F_G_DAY_ordinal, by decide, by decide⟩
        · subst q; exact ⟨r_G_MONTH, rfl, F_G_MONTH_ordinal, by decide, by decide⟩
        · subst q; exact ⟨r_QNAME, rfl, F_QNAME_ordinal, by decide, by decide⟩
      have H_DURATION : r_DURATION = t ↔ jj = (13 : Int32) := ⟨fun q => Value.int.inj (own_fld_eq Ft (q ▸ F_DURATION_ordinal)), fun q => by subst q; exact Value.ref.inj ht⟩
      refine own_go (fun _ hr => XS.iload X101.here hx rfl (hb hby at_202) rfl (own_aaload X101 hx hZ e101 f101 jj (.ref t) hjb ht rfl rfl rfl (hb hby at_204) hr)) ?_
      show own_Go p e below _ (T101.setTop (mkF m 205 #[.val (.int x0), .val (.int x1), .val (.ref b1), .val (.int (13 : Int32)), .val (.int jj), .val (.int (1 : Int32))] [(.ref t), (.ref r_DURATION)]))
      have K343 := (K98.wr W101 (Or.inr sz3))
      have f344 := (F_DURATION_promotion.keep K343 nin0)
      have Z345 := (Nat.le_trans (Nat.le_trans (Nat.le_trans (Nat.le_trans (Nat.le_trans (Nat.le_trans (Nat.le_trans (Nat.le_trans (Nat.le_trans (Nat.le_trans (Nat.le_trans (Nat.le_trans (Nat.le_trans (Nat.le_trans (Nat.le_trans (Nat.le_trans (Nat.le_trans (Nat.le_trans (Nat.le_trans (Nat.le_trans (Nat.le_trans Z0 E1.1) (Nat.le_of_eq W7.size.symm)) (Nat.le_of_eq W11.size.symm)) (Nat.le_of_eq W16.size.symm)) (Nat.le_of_eq W21.size.symm)) (Nat.le_of_eq W26.size.symm)) (Nat.le_of_eq W31.size.symm)) (Nat.le_of_eq W36.size.symm)) (Nat.le_of_eq W41.size.symm)) (Nat.le_of_eq W46.size.symm)) (Nat.le_of_eq W51.size.symm)) (Nat.le_of_eq W56.size.symm)) (Nat.le_of_eq W61.size.symm)) (Nat.le_of_eq W66.size.symm)) (Nat.le_of_eq W71.size.symm)) (Nat.le_of_eq W76.size.symm)) (Nat.le_of_eq W81.size.symm)) (Nat.le_of_eq W86.size.symm)) (Nat.le_of_eq W91.size.symm)) (Nat.le_of_eq W96.size.symm)) (Nat.le_of_eq W101.size.symm))
      have f346 := (((((((f72.wr W71).wr W76).wr W81).wr W86).wr W91).wr W96).wr W101)
      refine own_cv X101 hx hZ hown (notFace_of_selects (args := #[]) (mvT hZ (hw _ (own_m 48 rfl)))) (hw _ (own_m 45 rfl)) (hw _ (own_m 46 rfl)) (hw _ (own_m 48 rfl)) (hw _ (own_m 47 rfl)) (hw _ (own_m 3 rfl)) (hw _ (own_m 49 rfl)) (by decide) f346 (rm := { frames := 0, cells := 0, slots := 0, locals := 0 }) (rm_pr13 l Z a0 hw [] r_DURATION t jj h101 n0 Z345 f344 H_DURATION) (by decide) (W := 0) (by decide) (by decide) (by decide) e101 (by rw [hml]; rfl) (argsL := [(.ref t)]) (lenOf own_pd0 rfl) (rest := []) rfl rfl (Nat.le_of_eq rfl) (hb hby at_205) ?_
      intro _ T342 L342 X342 hQ342
      obtain ⟨rfl, N342q, e342⟩ := hQ342
      have N342 := Fr.app N101 N342q
      show own_Go p e below _ (T342.setTop (mkF m 208 #[.val (.int x0), .val (.int x1), .val (.ref b1), .val (.int (13 : Int32)), .val (.int jj), .val (.int (1 : Int32))] [(.int (own_p13 jj))]))
      refine own_go (fun _ hr => XS.iload X342.here hx rfl (hb hby at_208) rfl hr) ?_
      show own_Go p e below _ (T342.setTop (mkF m 210 #[.val (.int x0), .val (.int x1), .val (.ref b1), .val (.int (13 : Int32)), .val (.int jj), .val (.int (1 : Int32))] [(.int (1 : Int32)), (.int (own_p13 jj))]))
      have c347 : (own_p13 jj) = (1 : Int32) := by
                        have q := hj20
                        have p0 := c341
                        clear hj20 ht Ft hjb
                        simp only [Int32.lt_iff_toInt_lt, ← Int32.toInt_inj, Int32.reduceToInt] at p0
                        rcases q with q | q | q | q | q | q | q | q | q | q | q | q | q | q | q | q | q | q | q | q <;> subst q <;> first | decide | (exfalso; revert p0; decide)
      refine own_go (fun _ hr => XS.icmpNo X342.here hx rfl (hb hby at_210) rfl (teq c347).2 hr) ?_
      show own_Go p e below _ (T342.setTop (mkF m 213 #[.val (.int x0), .val (.int x1), .val (.ref b1), .val (.int (13 : Int32)), .val (.int jj), .val (.int (1 : Int32))] []))
      refine own_go (fun _ hr => XS.iconst X342.here hx rfl (hb hby at_213) (XS.goto X342.here hx rfl (pc0 := 214) (pc' := 218) rfl (hb hby at_214) (by decide) (by decide) hr)) ?_
      show own_Go p e below _ (T342.setTop (mkF m 218 #[.val (.int x0), .val (.int x1), .val (.ref b1), .val (.int (13 : Int32)), .val (.int jj), .val (.int (1 : Int32))] [(.int (1 : Int32))]))
      exact own_retN X342 hx hlk Bd.returns (t := .boolean) (by simp) (hb hby at_218) (by decide) (by decide) ⟨rfl, N342⟩
    refine own_go (fun _ hr => XS.icmpNo X101.here hx rfl (hb hby at_160) rfl (feq c341).1 hr) ?_
    show own_Go p e below _ (T101.setTop (mkF m 163 #[.val (.int x0), .val (.int x1), .val (.ref b1), .val (.int (13 : Int32)), .val (.int jj), .unset] []))
    refine own_go (fun _ hr => XS.iloadN X101.here hx rfl (hb hby at_163) rfl (XS.iconst X101.here hx rfl (hb hby at_164) (XS.icmpYes X101.here hx rfl (pc0 := 165) (pc' := 174) rfl (hb hby at_165) rfl (tlt (by decide)).2.2.1 (by decide) (by decide) (XS.iloadN X101.here hx rfl (hb hby at_174) rfl (XS.iconst X101.here hx rfl (hb hby at_175) (XS.icmpNo X101.here hx rfl (hb hby at_176) rfl (feq (by decide)).1 (XS.iloadN X101.here hx rfl (hb hby at_179) rfl (XS.bipush X101.here hx rfl (hb hby at_180) (XS.icmpYes X101.here hx rfl (pc0 := 182) (pc' := 195) rfl (hb hby at_182) rfl (feq (by decide)).2 (by decide) (by decide) (XS.iconst X101.here hx rfl (hb hby at_195) hr)))))))))) ?_
    show own_Go p e below _ (T101.setTop (mkF m 196 #[.val (.int x0), .val (.int x1), .val (.ref b1), .val (.int (13 : Int32)), .val (.int jj), .unset] [(.int (0 : Int32))]))
    refine own_go (fun _ hr => XS.istore X101.here hx rfl (hb hby at_196) rfl (l' := #[.val (.int x0), .val (.int x1), .val (.ref b1), .val (.int (13 : Int32)), .val (.int jj), .val (.int (0 : Int32))]) rfl (XS.aloadN X101.here hx rfl (hb hby at_198) rfl rfl (XS.iloadN X101.here hx rfl (hb hby at_199) rfl (own_aaload X101 hx hZ e101 f101 (13 : Int32) (.ref r_DURATION) ⟨by decide, by decide⟩ rfl rfl rfl rfl (hb hby at_200) (XS.aloadN X101.here hx rfl (hb hby at_201) rfl rfl hr))))) ?_
    show own_Go p e below _ (T101.setTop (mkF m 202 #[.val (.int x0), .val (.int x1), .val (.ref b1), .val (.int (13 : Int32)), .val (.int jj), .val (.int (0 : Int32))] [(.ref b1), (.ref r_DURATION)]))
    obtain ⟨t, ht, Ft, hjb⟩ : ∃ t, ([(.ref r_DOUBLE), (.ref r_FLOAT), (.ref r_DECIMAL), (.ref r_INTEGER), (.ref r_STRING), (.ref r_ANY_URI), (.ref r_UNTYPED_ATOMIC), (.ref r_BOOLEAN), (.ref r_DATE_TIME), (.ref r_DATE), (.ref r_TIME), (.ref r_YEAR_MONTH_DURATION), (.ref r_DAY_TIME_DURATION), (.ref r_DURATION), (.ref r_G_YEAR_MONTH), (.ref r_G_YEAR), (.ref r_G_MONTH_DAY), (.ref r_G_DAY), (.ref r_G_MONTH), (.ref r_QNAME)] : List Value).getD jj.toNatClampNeg .null = .ref t ∧ Fld Z h0 t "java/lang/Enum" "ordinal" "I" (.int jj) ∧ (¬ jj < 0 ∧ jj < 20) := by
      rcases hj20 with q | q | q | q | q | q | q | q | q | q | q | q | q | q | q | q | q | q | q | q
      · subst q; exact ⟨r_DOUBLE, rfl, F_DOUBLE_ordinal, by decide, by decide⟩
      · subst q; exact ⟨r_FLOAT, rfl, F_FLOAT_ordinal, by decide, by decide⟩
      · subst q; exact ⟨r_DECIMAL, rfl, F_DECIMAL_ordinal, by decide, by decide⟩
      · subst q; exact ⟨r_INTEGER, rfl, F_INTEGER_ordinal, by decide, by decide⟩
      · subst q; exact ⟨r_STRING, rfl, F_STRING_ordinal, by decide, by decide⟩
      · subst q; exact ⟨r_ANY_URI, rfl, F_ANY_URI_ordinal, by decide, by decide⟩
      · subst q; exact ⟨r_UNTYPED_ATOMIC, rfl, F_UNTYPED_ATOMIC_ordinal, by decide, by decide⟩
      · subst q; exact ⟨r_BOOLEAN, rfl, F_BOOLEAN_ordinal, by decide, by decide⟩
      · subst q; exact ⟨r_DATE_TIME, rfl, F_DATE_TIME_ordinal, by decide, by decide⟩
      · subst q; exact ⟨r_DATE, rfl, F_DATE_ordinal, by decide, by decide⟩
      · subst q; exact ⟨r_TIME, rfl, F_TIME_ordinal, by decide, by decide⟩
      · subst q; exact ⟨r_YEAR_MONTH_DURATION, rfl, F_YEAR_MONTH_DURATION_ordinal, by decide, by decide⟩
      · subst q; exact ⟨r_DAY_TIME_DURATION, rfl, F_DAY_TIME_DURATION_ordinal, by decide, by decide⟩
      · subst q; exact ⟨r_DURATION, rfl, F_DURATION_ordinal, by decide, by decide⟩
      · subst q; exact ⟨r_G_YEAR_MONTH, rfl, F_G_YEAR_MONTH_ordinal, by decide, by decide⟩
      · subst q; exact ⟨r_G_YEAR, rfl, F_G_YEAR_ordinal, by decide, by decide⟩
      · subst q; exact ⟨r_G_MONTH_DAY, rfl, F_G_MONTH_DAY_ordinal, by decide, by decide⟩
      · subst q; exact ⟨r_G_DAY, rfl, F_G_DAY_ordinal, by decide, by decide⟩
      · subst q; exact ⟨r_G_MONTH, rfl, F_G_MONTH_ordinal, by decide, by decide⟩
      · subst q; exact ⟨r_QNAME, rfl, F_QNAME_ordinal, by decide, by decide⟩
    have H_DURATION : r_DURATION = t ↔ jj = (13 : Int32) := ⟨fun q => Value.int.inj (own_fld_eq Ft (q ▸ F_DURATION_ordinal)), fun q => by subst q; exact Value.ref.inj ht⟩
    refine own_go (fun _ hr => XS.iload X101.here hx rfl (hb hby at_202) rfl (own_aaload X101 hx hZ e101 f101 jj (.ref t) hjb ht rfl rfl rfl (hb hby at_204) hr)) ?_
    show own_Go p e below _ (T101.setTop (mkF m 205 #[.val (.int x0), .val (.int x1), .val (.ref b1), .val (.int (13 : Int32)), .val (.int jj), .val (.int (0 : Int32))] [(.ref t), (.ref r_DURATION)]))
    have K349 := (K98.wr W101 (Or.inr sz3))
    have f350 := (F_DURATION_promotion.keep K349 nin0)
    have Z351 := (Nat.le_trans (Nat.le_trans (Nat.le_trans (Nat.le_trans (Nat.le_trans (Nat.le_trans (Nat.le_trans (Nat.le_trans (Nat.le_trans (Nat.le_trans (Nat.le_trans (Nat.le_trans (Nat.le_trans (Nat.le_trans (Nat.le_trans (Nat.le_trans (Nat.le_trans (Nat.le_trans (Nat.le_trans (Nat.le_trans (Nat.le_trans Z0 E1.1) (Nat.le_of_eq W7.size.symm)) (Nat.le_of_eq W11.size.symm)) (Nat.le_of_eq W16.size.symm)) (Nat.le_of_eq W21.size.symm)) (Nat.le_of_eq W26.size.symm)) (Nat.le_of_eq W31.size.symm)) (Nat.le_of_eq W36.size.symm)) (Nat.le_of_eq W41.size.symm)) (Nat.le_of_eq W46.size.symm)) (Nat.le_of_eq W51.size.symm)) (Nat.le_of_eq W56.size.symm)) (Nat.le_of_eq W61.size.symm)) (Nat.le_of_eq W66.size.symm)) (Nat.le_of_eq W71.size.symm)) (Nat.le_of_eq W76.size.symm)) (Nat.le_of_eq W81.size.symm)) (Nat.le_of_eq W86.size.symm)) (Nat.le_of_eq W91.size.symm)) (Nat.le_of_eq W96.size.symm)) (Nat.le_of_eq W101.size.symm))
    have f352 := (((((((f72.wr W71).wr W76).wr W81).wr W86).wr W91).wr W96).wr W101)
    refine own_cv X101 hx hZ hown (notFace_of_selects (args := #[]) (mvT hZ (hw _ (own_m 48 rfl)))) (hw _ (own_m 45 rfl)) (hw _ (own_m 46 rfl)) (hw _ (own_m 48 rfl)) (hw _ (own_m 47 rfl)) (hw _ (own_m 3 rfl)) (hw _ (own_m 49 rfl)) (by decide) f352 (rm := { frames := 0, cells := 0, slots := 0, locals := 0 }) (rm_pr13 l Z a0 hw [] r_DURATION t jj h101 n0 Z351 f350 H_DURATION) (by decide) (W := 0) (by decide) (by decide) (by decide) e101 (by rw [hml]; rfl) (argsL := [(.ref t)]) (lenOf own_pd0 rfl) (rest := []) rfl rfl (Nat.le_of_eq rfl) (hb hby at_205) ?_
    intro _ T348 L348 X348 hQ348
    obtain ⟨rfl, N348q, e348⟩ := hQ348
    have N348 := Fr.app N101 N348q
    show own_Go p e below _ (T348.setTop (mkF m 208 #[.val (.int x0), .val (.int x1), .val (.ref b1), .val (.int (13 : Int32)), .val (.int jj), .val (.int (0 : Int32))] [(.int (own_p13 jj))]))
    refine own_go (fun _ hr => XS.iload X348.here hx rfl (hb hby at_208) rfl hr) ?_
    show own_Go p e below _ (T348.setTop (mkF m 210 #[.val (.int x0), .val (.int x1), .val (.ref b1), .val (.int (13 : Int32)), .val (.int jj), .val (.int (0 : Int32))] [(.int (0 : Int32)), (.int (own_p13 jj))]))
    have c353 : (own_p13 jj) = (0 : Int32) := by
                        have q := hj20
                        have p0 := c341
                        clear hj20 ht Ft hjb
                        simp only [Int32.lt_iff_toInt_lt, ← Int32.toInt_inj, Int32.reduceToInt] at p0
                        rcases q with q | q | q | q | q | q | q | q | q | q | q | q | q | q | q | q | q | q | q | q <;> subst q <;> first | decide | (exfalso; revert p0; decide)
    refine own_go (fun _ hr => XS.icmpNo X348.here hx rfl (hb hby at_210) rfl (teq c353).2 hr) ?_
    show own_Go p e below _ (T348.setTop (mkF m 213 #[.val (.int x0), .val (.int x1), .val (.ref b1), .val (.int (13 : Int32)), .val (.int jj), .val (.int (0 : Int32))] []))
    refine own_go (fun _ hr => XS.iconst X348.here hx rfl (hb hby at_213) (XS.goto X348.here hx rfl (pc0 := 214) (pc' := 218) rfl (hb hby at_214) (by decide) (by decide) hr)) ?_
    show own_Go p e below _ (T348.setTop (mkF m 218 #[.val (.int x0), .val (.int x1), .val (.ref b1), .val (.int (13 : Int32)), .val (.int jj), .val (.int (0 : Int32))] [(.int (1 : Int32))]))
    exact own_retN X348 hx hlk Bd.returns (t := .boolean) (by simp) (hb hby at_218) (by decide) (by decide) ⟨rfl, N348⟩
  · rw [hk105]
    show own_Go p e below _ (T101.setTop (mkF m 157 #[.val (.int x0), .val (.int x1), .val (.ref b1), .val (.int (14 : Int32)), .val (.int jj), .unset] []))
    refine own_go (fun _ hr => XS.iloadN X101.here hx rfl (hb hby at_157) rfl (XS.iload X101.here hx rfl (hb hby at_158) rfl hr)) ?_
    show own_Go p e below _ (T101.setTop (mkF m 160 #[.val (.int x0), .val (.int x1), .val (.ref b1), .val (.int (14 : Int32)), .val (.int jj), .unset] [(.int jj), (.int (14 : Int32))]))
    by_cases c354 : (14 : Int32) = jj
    · refine own_go (fun _ hr => XS.icmpYes X101.here hx rfl (pc0 := 160) (pc' := 191) rfl (hb hby at_160) rfl (teq c354).1 (by decide) (by decide) hr) ?_
      show own_Go p e below _ (T101.setTop (mkF m 191 #[.val (.int x0), .val (.int x1), .val (.ref b1), .val (.int (14 : Int32)), .val (.int jj), .unset] []))
      refine own_go (fun _ hr => XS.iconst X101.here hx rfl (hb hby at_191) (XS.goto X101.here hx rfl (pc0 := 192) (pc' := 196) rfl (hb hby at_192) (by decide) (by decide) (XS.istore X101.here hx rfl (hb hby at_196) rfl (l' := #[.val (.int x0), .val (.int x1), .val (.ref b1), .val (.int (14 : Int32)), .val (.int jj), .val (.int (1 : Int32))]) rfl (XS.aloadN X101.here hx rfl (hb hby at_198) rfl rfl (XS.iloadN X101.here hx rfl (hb hby at_199) rfl (own_aaload X101 hx hZ e101 f101 (14 : Int32) (.ref r_G_YEAR_MONTH) ⟨by decide, by decide⟩ rfl rfl rfl rfl (hb hby at_200) (XS.aloadN X101.here hx rfl (hb hby at_201) rfl rfl hr))))))) ?_
      show own_Go p e below _ (T101.setTop (mkF m 202 #[.val (.int x0), .val (.int x1), .val (.ref b1), .val (.int (14 : Int32)), .val (.int jj), .val (.int (1 : Int32))] [(.ref b1), (.ref r_G_YEAR_MONTH)]))
      obtain ⟨t, ht, Ft, hjb⟩ : ∃ t, ([(.ref r_DOUBLE), (.ref r_FLOAT), (.ref r_DECIMAL), (.ref r_INTEGER), (.ref r_STRING), (.ref r_ANY_URI), (.ref r_UNTYPED_ATOMIC), (.ref r_BOOLEAN), (.ref r_DATE_TIME), (.ref r_DATE), (.ref r_TIME), (.ref r_YEAR_MONTH_DURATION), (.ref r_DAY_TIME_DURATION), (.ref r_DURATION), (.ref r_G_YEAR_MONTH), (.ref r_G_YEAR), (.ref r_G_MONTH_DAY), (.ref r_G_DAY), (.ref r_G_MONTH), (.ref r_QNAME)] : List Value).getD jj.toNatClampNeg .null = .ref t ∧ Fld Z h0 t "java/lang/Enum" "ordinal" "I" (.int jj) ∧ (¬ jj < 0 ∧ jj < 20) := by
        rcases hj20 with q | q | q | q | q | q | q | q | q | q | q | q | q | q | q | q | q | q | q | q
        · subst q; exact ⟨r_DOUBLE, rfl, F_DOUBLE_ordinal, by decide, by decide⟩
        · subst q; exact ⟨r_FLOAT, rfl, F_FLOAT_ordinal, by decide, by decide⟩
        · subst q; exact ⟨r_DECIMAL, rfl, F_DECIMAL_ordinal, by decide, by decide⟩
        · subst q; exact ⟨r_INTEGER, rfl, F_INTEGER_ordinal, by decide, by decide⟩
        · subst q; exact ⟨r_STRING, rfl, F_STRING_ordinal, by decide, by decide⟩
        · subst q; exact ⟨r_ANY_URI, rfl, F_ANY_URI_ordinal, by decide, by decide⟩
        · subst q; exact ⟨r_UNTYPED_ATOMIC, rfl, F_UNTYPED_ATOMIC_ordinal, by decide, by decide⟩
        · subst q; exact ⟨r_BOOLEAN, rfl, F_BOOLEAN_ordinal, by decide, by decide⟩
        · subst q; exact ⟨r_DATE_TIME, rfl, F_DATE_TIME_ordinal, by decide, by decide⟩
        · subst q; exact ⟨r_DATE, rfl, F_DATE_ordinal, by decide, by decide⟩
        · subst q; exact ⟨r_TIME, rfl, F_TIME_ordinal, by decide, by decide⟩
        · subst q; exact ⟨r_YEAR_MONTH_DURATION, rfl, F_YEAR_MONTH_DURATION_ordinal, by decide, by decide⟩
        · subst q; exact ⟨r_DAY_TIME_DURATION, rfl, F_DAY_TIME_DURATION_ordinal, by decide, by decide⟩
        · subst q; exact ⟨r_DURATION, rfl, F_DURATION_ordinal, by decide, by decide⟩
        · subst q; exact ⟨r_G_YEAR_MONTH, rfl, F_G_YEAR_MONTH_ordinal, by decide, by decide⟩
        · subst q; exact ⟨r_G_YEAR, rfl, F_G_YEAR_ordinal, by decide, by decide⟩
        · subst q; exact ⟨r_G_MONTH_DAY, rfl, F_G_MONTH_DAY_ordinal, by decide, by decide⟩
        · subst q; exact ⟨r_G_DAY, rfl, F_G_DAY_ordinal, by decide, by decide⟩
        · subst q; exact ⟨r_G_MONTH, rfl, F_G_MONTH_ordinal, by decide, by decide⟩
        · subst q; exact ⟨r_QNAME, rfl, F_QNAME_ordinal, by decide, by decide⟩
      have H_G_YEAR_MONTH : r_G_YEAR_MONTH = t ↔ jj = (14 : Int32) := ⟨fun q => Value.int.inj (own_fld_eq Ft (q ▸ F_G_YEAR_MONTH_ordinal)), fun q => by subst q; exact Value.ref.inj ht⟩
      refine own_go (fun _ hr => XS.iload X101.here hx rfl (hb hby at_202) rfl (own_aaload X101 hx hZ e101 f101 jj (.ref t) hjb ht rfl rfl rfl (hb hby at_204) hr)) ?_
      show own_Go p e below _ (T101.setTop (mkF m 205 #[.val (.int x0), .val (.int x1), .val (.ref b1), .val (.int (14 : Int32)), .val (.int jj), .val (.int (1 : Int32))] [(.ref t), (.ref r_G_YEAR_MONTH)]))
      have K356 := (K98.wr W101 (Or.inr sz3))
      have f357 := (F_G_YEAR_MONTH_promotion.keep K356 nin0)
      have Z358 := (Nat.le_trans (Nat.le_trans (Nat.le_trans (Nat.le_trans (Nat.le_trans (Nat.le_trans (Nat.le_trans (Nat.le_trans (Nat.le_trans (Nat.le_trans (Nat.le_trans (Nat.le_trans (Nat.le_trans (Nat.le_trans (Nat.le_trans (Nat.le_trans (Nat.le_trans (Nat.le_trans (Nat.le_trans (Nat.le_trans (Nat.le_trans Z0 E1.1) (Nat.le_of_eq W7.size.symm)) (Nat.le_of_eq W11.size.symm)) (Nat.le_of_eq W16.size.symm)) (Nat.le_of_eq W21.size.symm)) (Nat.le_of_eq W26.size.symm)) (Nat.le_of_eq W31.size.symm)) (Nat.le_of_eq W36.size.symm)) (Nat.le_of_eq W41.size.symm)) (Nat.le_of_eq W46.size.symm)) (Nat.le_of_eq W51.size.symm)) (Nat.le_of_eq W56.size.symm)) (Nat.le_of_eq W61.size.symm)) (Nat.le_of_eq W66.size.symm)) (Nat.le_of_eq W71.size.symm)) (Nat.le_of_eq W76.size.symm)) (Nat.le_of_eq W81.size.symm)) (Nat.le_of_eq W86.size.symm)) (Nat.le_of_eq W91.size.symm)) (Nat.le_of_eq W96.size.symm)) (Nat.le_of_eq W101.size.symm))
      have f359 := ((((((f77.wr W76).wr W81).wr W86).wr W91).wr W96).wr W101)
      refine own_cv X101 hx hZ hown (notFace_of_selects (args := #[]) (mvT hZ (hw _ (own_m 48 rfl)))) (hw _ (own_m 45 rfl)) (hw _ (own_m 46 rfl)) (hw _ (own_m 48 rfl)) (hw _ (own_m 47 rfl)) (hw _ (own_m 3 rfl)) (hw _ (own_m 49 rfl)) (by decide) f359 (rm := { frames := 0, cells := 0, slots := 0, locals := 0 }) (rm_pr14 l Z a0 hw [] r_G_YEAR_MONTH t jj h101 n0 Z358 f357 H_G_YEAR_MONTH) (by decide) (W := 0) (by decide) (by decide) (by decide) e101 (by rw [hml]; rfl) (argsL := [(.ref t)]) (lenOf own_pd0 rfl) (rest := []) rfl rfl (Nat.le_of_eq rfl) (hb hby at_205) ?_
      intro _ T355 L355 X355 hQ355
      obtain ⟨rfl, N355q, e355⟩ := hQ355
      have N355 := Fr.app N101 N355q
      show own_Go p e below _ (T355.setTop (mkF m 208 #[.val (.int x0), .val (.int x1), .val (.ref b1), .val (.int (14 : Int32)), .val (.int jj), .val (.int (1 : Int32))] [(.int (own_p14 jj))]))
      refine own_go (fun _ hr => XS.iload X355.here hx rfl (hb hby at_208) rfl hr) ?_
      show own_Go p e below _ (T355.setTop (mkF m 210 #[.val (.int x0), .val (.int x1), .val (.ref b1), .val (.int (14 : Int32)), .val (.int jj), .val (.int (1 : Int32))] [(.int (1 : Int32)), (.int (own_p14 jj))]))
      have c360 : (own_p14 jj) = (1 : Int32) := by
                        have q := hj20
                        have p0 := c354
                        clear hj20 ht Ft hjb
                        simp only [Int32.lt_iff_toInt_lt, ← Int32.toInt_inj, Int32.reduceToInt] at p0
                        rcases q with q | q | q | q | q | q | q | q | q | q | q | q | q | q | q | q | q | q | q | q <;> subst q <;> first | decide | (exfalso; revert p0; decide)
      refine own_go (fun _ hr => XS.icmpNo X355.here hx rfl (hb hby at_210) rfl (teq c360).2 hr) ?_
      show own_Go p e below _ (T355.setTop (mkF m 213 #[.val (.int x0), .val (.int x1), .val (.ref b1), .val (.int (14 : Int32)), .val (.int jj), .val (.int (1 : Int32))] []))
      refine own_go (fun _ hr => XS.iconst X355.here hx rfl (hb hby at_213) (XS.goto X355.here hx rfl (pc0 := 214) (pc' := 218) rfl (hb hby at_214) (by decide) (by decide) hr)) ?_
      show own_Go p e below _ (T355.setTop (mkF m 218 #[.val (.int x0), .val (.int x1), .val (.ref b1), .val (.int (14 : Int32)), .val (.int jj), .val (.int (1 : Int32))] [(.int (1 : Int32))]))
      exact own_retN X355 hx hlk Bd.returns (t := .boolean) (by simp) (hb hby at_218) (by decide) (by decide) ⟨rfl, N355⟩
    refine own_go (fun _ hr => XS.icmpNo X101.here hx rfl (hb hby at_160) rfl (feq c354).1 hr) ?_
    show own_Go p e below _ (T101.setTop (mkF m 163 #[.val (.int x0), .val (.int x1), .val (.ref b1), .val (.int (14 : Int32)), .val (.int jj), .unset] []))
    refine own_go (fun _ hr => XS.iloadN X101.here hx rfl (hb hby at_163) rfl (XS.iconst X101.here hx rfl (hb hby at_164) (XS.icmpYes X101.here hx rfl (pc0 := 165) (pc' := 174) rfl (hb hby at_165) rfl (tlt (by decide)).2.2.1 (by decide) (by decide) (XS.iloadN X101.here hx rfl (hb hby at_174) rfl (XS.iconst X101.here hx rfl (hb hby at_175) (XS.icmpNo X101.here hx rfl (hb hby at_176) rfl (feq (by decide)).1 (XS.iloadN X101.here hx rfl (hb hby at_179) rfl (XS.bipush X101.here hx rfl (hb hby at_180) (XS.icmpYes X101.here hx rfl (pc0 := 182) (pc' := 195) rfl (hb hby at_182) rfl (feq (by decide)).2 (by decide) (by decide) (XS.iconst X101.here hx rfl (hb hby at_195) hr)))))))))) ?_
    show own_Go p e below _ (T101.setTop (mkF m 196 #[.val (.int x0), .val (.int x1), .val (.ref b1), .val (.int (14 : Int32)), .val (.int jj), .unset] [(.int (0 : Int32))]))
    refine own_go (fun _ hr => XS.istore X101.here hx rfl (hb hby at_196) rfl (l' := #[.val (.int x0), .val (.int x1), .val (.ref b1), .val (.int (14 : Int32)), .val (.int jj), .val (.int (0 : Int32))]) rfl (XS.aloadN X101.here hx rfl (hb hby at_198) rfl rfl (XS.iloadN X101.here hx rfl (hb hby at_199) rfl (own_aaload X101 hx hZ e101 f101 (14 : Int32) (.ref r_G_YEAR_MONTH) ⟨by decide, by decide⟩ rfl rfl rfl rfl (hb hby at_200) (XS.aloadN X101.here hx rfl (hb hby at_201) rfl rfl hr))))) ?_
    show own_Go p e below _ (T101.setTop (mkF m 202 #[.val (.int x0), .val (.int x1), .val (.ref b1), .val (.int (14 : Int32)), .val (.int jj), .val (.int (0 : Int32))] [(.ref b1), (.ref r_G_YEAR_MONTH)]))
    obtain ⟨t, ht, Ft, hjb⟩ : ∃ t, ([(.ref r_DOUBLE), (.ref r_FLOAT), (.ref r_DECIMAL), (.ref r_INTEGER), (.ref r_STRING), (.ref r_ANY_URI), (.ref r_UNTYPED_ATOMIC), (.ref r_BOOLEAN), (.ref r_DATE_TIME), (.ref r_DATE), (.ref r_TIME), (.ref r_YEAR_MONTH_DURATION), (.ref r_DAY_TIME_DURATION), (.ref r_DURATION), (.ref r_G_YEAR_MONTH), (.ref r_G_YEAR), (.ref r_G_MONTH_DAY), (.ref r_G_DAY), (.ref r_G_MONTH), (.ref r_QNAME)] : List Value).getD jj.toNatClampNeg .null = .ref t ∧ Fld Z h0 t "java/lang/Enum" "ordinal" "I" (.int jj) ∧ (¬ jj < 0 ∧ jj < 20) := by
      rcases hj20 with q | q | q | q | q | q | q | q | q | q | q | q | q | q | q | q | q | q | q | q
      · subst q; exact ⟨r_DOUBLE, rfl, F_DOUBLE_ordinal, by decide, by decide⟩
      · subst q; exact ⟨r_FLOAT, rfl, F_FLOAT_ordinal, by decide, by decide⟩
      · subst q; exact ⟨r_DECIMAL, rfl, F_DECIMAL_ordinal, by decide, by decide⟩
      · subst q; exact ⟨r_INTEGER, rfl, F_INTEGER_ordinal, by decide, by decide⟩
      · subst q; exact ⟨r_STRING, rfl, F_STRING_ordinal, by decide, by decide⟩
      · subst q; exact ⟨r_ANY_URI, rfl, F_ANY_URI_ordinal, by decide, by decide⟩
      · subst q; exact ⟨r_UNTYPED_ATOMIC, rfl, F_UNTYPED_ATOMIC_ordinal, by decide, by decide⟩
      · subst q; exact ⟨r_BOOLEAN, rfl, F_BOOLEAN_ordinal, by decide, by decide⟩
      · subst q; exact ⟨r_DATE_TIME, rfl, F_DATE_TIME_ordinal, by decide, by decide⟩
      · subst q; exact ⟨r_DATE, rfl, F_DATE_ordinal, by decide, by decide⟩
      · subst q; exact ⟨r_TIME, rfl, F_TIME_ordinal, by decide, by decide⟩
      · subst q; exact ⟨r_YEAR_MONTH_DURATION, rfl, F_YEAR_MONTH_DURATION_ordinal, by decide, by decide⟩
      · subst q; exact ⟨r_DAY_TIME_DURATION, rfl, F_DAY_TIME_DURATION_ordinal, by decide, by decide⟩
      · subst q; exact ⟨r_DURATION, rfl, F_DURATION_ordinal, by decide, by decide⟩
      · subst q; exact ⟨r_G_YEAR_MONTH, rfl, F_G_YEAR_MONTH_ordinal, by decide, by decide⟩
      · subst q; exact ⟨r_G_YEAR, rfl, F_G_YEAR_ordinal, by decide, by decide⟩
      · subst q; exact ⟨r_G_MONTH_DAY, rfl, F_G_MONTH_DAY_ordinal, by decide, by decide⟩
      · subst q; exact ⟨r_G_DAY, rfl, F_G_DAY_ordinal, by decide, by decide⟩
      · subst q; exact ⟨r_G_MONTH, rfl, F_G_MONTH_ordinal, by decide, by decide⟩
      · subst q; exact ⟨r_QNAME, rfl, F_QNAME_ordinal, by decide, by decide⟩
    have H_G_YEAR_MONTH : r_G_YEAR_MONTH = t ↔ jj = (14 : Int32) := ⟨fun q => Value.int.inj (own_fld_eq Ft (q ▸ F_G_YEAR_MONTH_ordinal)), fun q => by subst q; exact Value.ref.inj ht⟩
    refine own_go (fun _ hr => XS.iload X101.here hx rfl (hb hby at_202) rfl (own_aaload X101 hx hZ e101 f101 jj (.ref t) hjb ht rfl rfl rfl (hb hby at_204) hr)) ?_
    show own_Go p e below _ (T101.setTop (mkF m 205 #[.val (.int x0), .val (.int x1), .val (.ref b1), .val (.int (14 : Int32)), .val (.int jj), .val (.int (0 : Int32))] [(.ref t), (.ref r_G_YEAR_MONTH)]))
    have K362 := (K98.wr W101 (Or.inr sz3))
    have f363 := (F_G_YEAR_MONTH_promotion.keep K362 nin0)
    have Z364 := (Nat.le_trans (Nat.le_trans (Nat.le_trans (Nat.le_trans (Nat.le_trans (Nat.le_trans (Nat.le_trans (Nat.le_trans (Nat.le_trans (Nat.le_trans (Nat.le_trans (Nat.le_trans (Nat.le_trans (Nat.le_trans (Nat.le_trans (Nat.le_trans (Nat.le_trans (Nat.le_trans (Nat.le_trans (Nat.le_trans (Nat.le_trans Z0 E1.1) (Nat.le_of_eq W7.size.symm)) (Nat.le_of_eq W11.size.symm)) (Nat.le_of_eq W16.size.symm)) (Nat.le_of_eq W21.size.symm)) (Nat.le_of_eq W26.size.symm)) (Nat.le_of_eq W31.size.symm)) (Nat.le_of_eq W36.size.symm)) (Nat.le_of_eq W41.size.symm)) (Nat.le_of_eq W46.size.symm)) (Nat.le_of_eq W51.size.symm)) (Nat.le_of_eq W56.size.symm)) (Nat.le_of_eq W61.size.symm)) (Nat.le_of_eq W66.size.symm)) (Nat.le_of_eq W71.size.symm)) (Nat.le_of_eq W76.size.symm)) (Nat.le_of_eq W81.size.symm)) (Nat.le_of_eq W86.size.symm)) (Nat.le_of_eq W91.size.symm)) (Nat.le_of_eq W96.size.symm)) (Nat.le_of_eq W101.size.symm))
    have f365 := ((((((f77.wr W76).wr W81).wr W86).wr W91).wr W96).wr W101)
    refine own_cv X101 hx hZ hown (notFace_of_selects (args := #[]) (mvT hZ (hw _ (own_m 48 rfl)))) (hw _ (own_m 45 rfl)) (hw _ (own_m 46 rfl)) (hw _ (own_m 48 rfl)) (hw _ (own_m 47 rfl)) (hw _ (own_m 3 rfl)) (hw _ (own_m 49 rfl)) (by decide) f365 (rm := { frames := 0, cells := 0, slots := 0, locals := 0 }) (rm_pr14 l Z a0 hw [] r_G_YEAR_MONTH t jj h101 n0 Z364 f363 H_G_YEAR_MONTH) (by decide) (W := 0) (by decide) (by decide) (by decide) e101 (by rw [hml]; rfl) (argsL := [(.ref t)]) (lenOf own_pd0 rfl) (rest := []) rfl rfl (Nat.le_of_eq rfl) (hb hby at_205) ?_
    intro _ T361 L361 X361 hQ361
    obtain ⟨rfl, N361q, e361⟩ := hQ361
    have N361 := Fr.app N101 N361q
    show own_Go p e below _ (T361.setTop (mkF m 208 #[.val (.int x0), .val (.int x1), .val (.ref b1), .val (.int (14 : Int32)), .val (.int jj), .val (.int (0 : Int32))] [(.int (own_p14 jj))]))
    refine own_go (fun _ hr => XS.iload X361.here hx rfl (hb hby at_208) rfl hr) ?_
    show own_Go p e below _ (T361.setTop (mkF m 210 #[.val (.int x0), .val (.int x1), .val (.ref b1), .val (.int (14 : Int32)), .val (.int jj), .val (.int (0 : Int32))] [(.int (0 : Int32)), (.int (own_p14 jj))]))
    have c366 : (own_p14 jj) = (0 : Int32) := by
                        have q := hj20
                        have p0 := c354
                        clear hj20 ht Ft hjb
                        simp only [Int32.lt_iff_toInt_lt, ← Int32.toInt_inj, Int32.reduceToInt] at p0
                        rcases q with q | q | q | q | q | q | q | q | q | q | q | q | q | q | q | q | q | q | q | q <;> subst q <;> first | decide | (exfalso; revert p0; decide)
    refine own_go (fun _ hr => XS.icmpNo X361.here hx rfl (hb hby at_210) rfl (teq c366).2 hr) ?_
    show own_Go p e below _ (T361.setTop (mkF m 213 #[.val (.int x0), .val (.int x1), .val (.ref b1), .val (.int (14 : Int32)), .val (.int jj), .val (.int (0 : Int32))] []))
    refine own_go (fun _ hr => XS.iconst X361.here hx rfl (hb hby at_213) (XS.goto X361.here hx rfl (pc0 := 214) (pc' := 218) rfl (hb hby at_214) (by decide) (by decide) hr)) ?_
    show own_Go p e below _ (T361.setTop (mkF m 218 #[.val (.int x0), .val (.int x1), .val (.ref b1), .val (.int (14 : Int32)), .val (.int jj), .val (.int (0 : Int32))] [(.int (1 : Int32))]))
    exact own_retN X361 hx hlk Bd.returns (t := .boolean) (by simp) (hb hby at_218) (by decide) (by decide) ⟨rfl, N361⟩
  · rw [hk105]
    show own_Go p e below _ (T101.setTop (mkF m 157 #[.val (.int x0), .val (.int x1), .val (.ref b1), .val (.int (15 : Int32)), .val (.int jj), .unset] []))
    refine own_go (fun _ hr => XS.iloadN X101.here hx rfl (hb hby at_157) rfl (XS.iload X101.here hx rfl (hb hby at_158) rfl hr)) ?_
    show own_Go p e below _ (T101.setTop (mkF m 160 #[.val (.int x0), .val (.int x1), .val (.ref b1), .val (.int (15 : Int32)), .val (.int jj), .unset] [(.int jj), (.int (15 : Int32))]))
    by_cases c367 : (15 : Int32) = jj
    · refine own_go (fun _ hr => XS.icmpYes X101.here hx rfl (pc0 := 160) (pc' := 191) rfl (hb hby at_160) rfl (teq c367).1 (by decide) (by decide) hr) ?_
      show own_Go p e below _ (T101.setTop (mkF m 191 #[.val (.int x0), .val (.int x1), .val (.ref b1), .val (.int (15 : Int32)), .val (.int jj), .unset] []))
      refine own_go (fun _ hr => XS.iconst X101.here hx rfl (hb hby at_191) (XS.goto X101.here hx rfl (pc0 := 192) (pc' := 196) rfl (hb hby at_192) (by decide) (by decide) (XS.istore X101.here hx rfl (hb hby at_196) rfl (l' := #[.val (.int x0), .val (.int x1), .val (.ref b1), .val (.int (15 : Int32)), .val (.int jj), .val (.int (1 : Int32))]) rfl (XS.aloadN X101.here hx rfl (hb hby at_198) rfl rfl (XS.iloadN X101.here hx rfl (hb hby at_199) rfl (own_aaload X101 hx hZ e101 f101 (15 : Int32) (.ref r_G_YEAR) ⟨by decide, by decide⟩ rfl rfl rfl rfl (hb hby at_200) (XS.aloadN X101.here hx rfl (hb hby at_201) rfl rfl hr))))))) ?_
      show own_Go p e below _ (T101.setTop (mkF m 202 #[.val (.int x0), .val (.int x1), .val (.ref b1), .val (.int (15 : Int32)), .val (.int jj), .val (.int (1 : Int32))] [(.ref b1), (.ref r_G_YEAR)]))
      obtain ⟨t, ht, Ft, hjb⟩ : ∃ t, ([(.ref r_DOUBLE), (.ref r_FLOAT), (.ref r_DECIMAL), (.ref r_INTEGER), (.ref r_STRING), (.ref r_ANY_URI), (.ref r_UNTYPED_ATOMIC), (.ref r_BOOLEAN), (.ref r_DATE_TIME), (.ref r_DATE), (.ref r_TIME), (.ref r_YEAR_MONTH_DURATION), (.ref r_DAY_TIME_DURATION), (.ref r_DURATION), (.ref r_G_YEAR_MONTH), (.ref r_G_YEAR), (.ref r_G_MONTH_DAY), (.ref r_G_DAY), (.ref r_G_MONTH), (.ref r_QNAME)] : List Value).getD jj.toNatClampNeg .null = .ref t ∧ Fld Z h0 t "java/lang/Enum" "ordinal" "I" (.int jj) ∧ (¬ jj < 0 ∧ jj < 20) := by
        rcases hj20 with q | q | q | q | q | q | q | q | q | q | q | q | q | q | q | q | q | q | q | q
        · subst q; exact ⟨r_DOUBLE, rfl, F_DOUBLE_ordinal, by decide, by decide⟩
        · subst q; exact ⟨r_FLOAT, rfl, F_FLOAT_ordinal, by decide, by decide⟩
        · subst q; exact ⟨r_DECIMAL, rfl, F_DECIMAL_ordinal, by decide, by decide⟩
        · subst q; exact ⟨r_INTEGER, rfl, F_INTEGER_ordinal, by decide, by decide⟩
        · subst q; exact ⟨r_STRING, rfl, F_STRING_ordinal, by decide, by decide⟩
        · subst q; exact ⟨r_ANY_URI, rfl, F_ANY_URI_ordinal, by decide, by decide⟩
        · subst q; exact ⟨r_UNTYPED_ATOMIC, rfl, F_UNTYPED_ATOMIC_ordinal, by decide, by decide⟩
        · subst q; exact ⟨r_BOOLEAN, rfl, F_BOOLEAN_ordinal, by decide, by decide⟩
        · subst q; exact ⟨r_DATE_TIME, rfl, F_DATE_TIME_ordinal, by decide, by decide⟩
        · subst q; exact ⟨r_DATE, rfl, F_DATE_ordinal, by decide, by decide⟩
        · subst q; exact ⟨r_TIME, rfl, F_TIME_ordinal, by decide, by decide⟩
        · subst q; exact ⟨r_YEAR_MONTH_DURATION, rfl, F_YEAR_MONTH_DURATION_ordinal, by decide, by decide⟩
        · subst q; exact ⟨r_DAY_TIME_DURATION, rfl, F_DAY_TIME_DURATION_ordinal, by decide, by decide⟩
        · subst q; exact ⟨r_DURATION, rfl, F_DURATION_ordinal, by decide, by decide⟩
        · subst q; exact ⟨r_G_YEAR_MONTH, rfl, F_G_YEAR_MONTH_ordinal, by decide, by decide⟩
        · subst q; exact ⟨r_G_YEAR, rfl, F_G_YEAR_ordinal, by decide, by decide⟩
        · subst q; exact ⟨r_G_MONTH_DAY, rfl, F_G_MONTH_DAY_ordinal, by decide, by decide⟩
        · subst q; exact ⟨r_G_DAY, rfl, F_G_DAY_ordinal, by decide, by decide⟩
        · subst q; exact ⟨r_G_MONTH, rfl, F_G_MONTH_ordinal, by decide, by decide⟩
        · subst q; exact ⟨r_QNAME, rfl, F_QNAME_ordinal, by decide, by decide⟩
      have H_G_YEAR : r_G_YEAR = t ↔ jj = (15 : Int32) := ⟨fun q => Value.int.inj (own_fld_eq Ft (q ▸ F_G_YEAR_ordinal)), fun q => by subst q; exact Value.ref.inj ht⟩
      refine own_go (fun _ hr => XS.iload X101.here hx rfl (hb hby at_202) rfl (own_aaload X101 hx hZ e101 f101 jj (.ref t) hjb ht rfl rfl rfl (hb hby at_204) hr)) ?_
      show own_Go p e below _ (T101.setTop (mkF m 205 #[.val (.int x0), .val (.int x1), .val (.ref b1), .val (.int (15 : Int32)), .val (.int jj), .val (.int (1 : Int32))] [(.ref t), (.ref r_G_YEAR)]))
      have K369 := (K98.wr W101 (Or.inr sz3))
      have f370 := (F_G_YEAR_promotion.keep K369 nin0)
      have Z371 := (Nat.le_trans (Nat.le_trans (Nat.le_trans (Nat.le_trans (Nat.le_trans (Nat.le_trans (Nat.le_trans (Nat.le_trans (Nat.le_trans (Nat.le_trans (Nat.le_trans (Nat.le_trans (Nat.le_trans (Nat.le_trans (Nat.le_trans (Nat.le_trans (Nat.le_trans (Nat.le_trans (Nat.le_trans (Nat.le_trans (Nat.le_trans Z0 E1.1) (Nat.le_of_eq W7.size.symm)) (Nat.le_of_eq W11.size.symm)) (Nat.le_of_eq W16.size.symm)) (Nat.le_of_eq W21.size.symm)) (Nat.le_of_eq W26.size.symm)) (Nat.le_of_eq W31.size.symm)) (Nat.le_of_eq W36.size.symm)) (Nat.le_of_eq W41.size.symm)) (Nat.le_of_eq W46.size.symm)) (Nat.le_of_eq W51.size.symm)) (Nat.le_of_eq W56.size.symm)) (Nat.le_of_eq W61.size.symm)) (Nat.le_of_eq W66.size.symm)) (Nat.le_of_eq W71.size.symm)) (Nat.le_of_eq W76.size.symm)) (Nat.le_of_eq W81.size.symm)) (Nat.le_of_eq W86.size.symm)) (Nat.le_of_eq W91.size.symm)) (Nat.le_of_eq W96.size.symm)) (Nat.le_of_eq W101.size.symm))
      have f372 := (((((f82.wr W81).wr W86).wr W91).wr W96).wr W101)
      refine own_cv X101 hx hZ hown (notFace_of_selects (args := #[]) (mvT hZ (hw _ (own_m 48 rfl)))) (hw _ (own_m 45 rfl)) (hw _ (own_m 46 rfl)) (hw _ (own_m 48 rfl)) (hw _ (own_m 47 rfl)) (hw _ (own_m 3 rfl)) (hw _ (own_m 49 rfl)) (by decide) f372 (rm := { frames := 0, cells := 0, slots := 0, locals := 0 }) (rm_pr15 l Z a0 hw [] r_G_YEAR t jj h101 n0 Z371 f370 H_G_YEAR) (by decide) (W := 0) (by decide) (by decide) (by decide) e101 (by rw [hml]; rfl) (argsL := [(.ref t)]) (lenOf own_pd0 rfl) (rest := []) rfl rfl (Nat.le_of_eq rfl) (hb hby at_205) ?_
      intro _ T368 L368 X368 hQ368
      obtain ⟨rfl, N368q, e368⟩ := hQ368
      have N368 := Fr.app N101 N368q
      show own_Go p e below _ (T368.setTop (mkF m 208 #[.val (.int x0), .val (.int x1), .val (.ref b1), .val (.int (15 : Int32)), .val (.int jj), .val (.int (1 : Int32))] [(.int (own_p15 jj))]))
      refine own_go (fun _ hr => XS.iload X368.here hx rfl (hb hby at_208) rfl hr) ?_
      show own_Go p e below _ (T368.setTop (mkF m 210 #[.val (.int x0), .val (.int x1), .val (.ref b1), .val (.int (15 : Int32)), .val (.int jj), .val (.int (1 : Int32))] [(.int (1 : Int32)), (.int (own_p15 jj))]))
      have c373 : (own_p15 jj) = (1 : Int32) := by
                        have q := hj20
                        have p0 := c367
                        clear hj20 ht Ft hjb
                        simp only [Int32.lt_iff_toInt_lt, ← Int32.toInt_inj, Int32.reduceToInt] at p0
                        rcases q with q | q | q | q | q | q | q | q | q | q | q | q | q | q | q | q | q | q | q | q <;> subst q <;> first | decide | (exfalso; revert p0; decide)
      refine own_go (fun _ hr => XS.icmpNo X368.here hx rfl (hb hby at_210) rfl (teq c373).2 hr) ?_
      show own_Go p e below _ (T368.setTop (mkF m 213 #[.val (.int x0), .val (.int x1), .val (.ref b1), .val (.int (15 : Int32)), .val (.int jj), .val (.int (1 : Int32))] []))
      refine own_go (fun _ hr => XS.iconst X368.here hx rfl (hb hby at_213) (XS.goto X368.here hx rfl (pc0 := 214) (pc' := 218) rfl (hb hby at_214) (by decide) (by decide) hr)) ?_
      show own_Go p e below _ (T368.setTop (mkF m 218 #[.val (.int x0), .val (.int x1), .val (.ref b1), .val (.int (15 : Int32)), .val (.int jj), .val (.int (1 : Int32))] [(.int (1 : Int32))]))
      exact own_retN X368 hx hlk Bd.returns (t := .boolean) (by simp) (hb hby at_218) (by decide) (by decide) ⟨rfl, N368⟩
    refine own_go (fun _ hr => XS.icmpNo X101.here hx rfl (hb hby at_160) rfl (feq c367).1 hr) ?_
    show own_Go p e below _ (T101.setTop (mkF m 163 #[.val (.int x0), .val (.int x1), .val (.ref b1), .val (.int (15 : Int32)), .val (.int jj), .unset] []))
    refine own_go (fun _ hr => XS.iloadN X101.here hx rfl (hb hby at_163) rfl (XS.iconst X101.here hx rfl (hb hby at_164) (XS.icmpYes X101.here hx rfl (pc0 := 165) (pc' := 174) rfl (hb hby at_165) rfl (tlt (by decide)).2.2.1 (by decide) (by decide) (XS.iloadN X101.here hx rfl (hb hby at_174) rfl (XS.iconst X101.here hx rfl (hb hby at_175) (XS.icmpNo X101.here hx rfl (hb hby at_176) rfl (feq (by decide)).1 (XS.iloadN X101.here hx rfl (hb hby at_179) rfl (XS.bipush X101.here hx rfl (hb hby at_180) (XS.icmpYes X101.here hx rfl (pc0 := 182) (pc' := 195) rfl (hb hby at_182) rfl (feq (by decide)).2 (by decide) (by decide) (XS.iconst X101.here hx rfl (hb hby at_195) hr)))))))))) ?_
    show own_Go p e below _ (T101.setTop (mkF m 196 #[.val (.int x0), .val (.int x1), .val (.ref b1), .val (.int (15 : Int32)), .val (.int jj), .unset] [(.int (0 : Int32))]))
    refine own_go (fun _ hr => XS.istore X101.here hx rfl (hb hby at_196) rfl (l' := #[.val (.int x0), .val (.int x1), .val (.ref b1), .val (.int (15 : Int32)), .val (.int jj), .val (.int (0 : Int32))]) rfl (XS.aloadN X101.here hx rfl (hb hby at_198) rfl rfl (XS.iloadN X101.here hx rfl (hb hby at_199) rfl (own_aaload X101 hx hZ e101 f101 (15 : Int32) (.ref r_G_YEAR) ⟨by decide, by decide⟩ rfl rfl rfl rfl (hb hby at_200) (XS.aloadN X101.here hx rfl (hb hby at_201) rfl rfl hr))))) ?_
    show own_Go p e below _ (T101.setTop (mkF m 202 #[.val (.int x0), .val (.int x1), .val (.ref b1), .val (.int (15 : Int32)), .val (.int jj), .val (.int (0 : Int32))] [(.ref b1), (.ref r_G_YEAR)]))
    obtain ⟨t, ht, Ft, hjb⟩ : ∃ t, ([(.ref r_DOUBLE), (.ref r_FLOAT), (.ref r_DECIMAL), (.ref r_INTEGER), (.ref r_STRING), (.ref r_ANY_URI), (.ref r_UNTYPED_ATOMIC), (.ref r_BOOLEAN), (.ref r_DATE_TIME), (.ref r_DATE), (.ref r_TIME), (.ref r_YEAR_MONTH_DURATION), (.ref r_DAY_TIME_DURATION), (.ref r_DURATION), (.ref r_G_YEAR_MONTH), (.ref r_G_YEAR), (.ref r_G_MONTH_DAY), (.ref r_G_DAY), (.ref r_G_MONTH), (.ref r_QNAME)] : List Value).getD jj.toNatClampNeg .null = .ref t ∧ Fld Z h0 t "java/lang/Enum" "ordinal" "I" (.int jj) ∧ (¬ jj < 0 ∧ jj < 20) := by
      rcases hj20 with q | q | q | q | q | q | q | q | q | q | q | q | q | q | q | q | q | q | q | q
      · subst q; exact ⟨r_DOUBLE, rfl, F_DOUBLE_ordinal, by decide, by decide⟩
      · subst q; exact ⟨r_FLOAT, rfl, F_FLOAT_ordinal, by decide, by decide⟩
      · subst q; exact ⟨r_DECIMAL, rfl, F_DECIMAL_ordinal, by decide, by decide⟩
      · subst q; exact ⟨r_INTEGER, rfl, F_INTEGER_ordinal, by decide, by decide⟩
      · subst q; exact ⟨r_STRING, rfl, F_STRING_ordinal, by decide, by decide⟩
      · subst q; exact ⟨r_ANY_URI, rfl, F_ANY_URI_ordinal, by decide, by decide⟩
      · subst q; exact ⟨r_UNTYPED_ATOMIC, rfl, F_UNTYPED_ATOMIC_ordinal, by decide, by decide⟩
      · subst q; exact ⟨r_BOOLEAN, rfl, F_BOOLEAN_ordinal, by decide, by decide⟩
      · subst q; exact ⟨r_DATE_TIME, rfl, F_DATE_TIME_ordinal, by decide, by decide⟩
      · subst q; exact ⟨r_DATE, rfl, F_DATE_ordinal, by decide, by decide⟩
      · subst q; exact ⟨r_TIME, rfl, F_TIME_ordinal, by decide, by decide⟩
      · subst q; exact ⟨r_YEAR_MONTH_DURATION, rfl, F_YEAR_MONTH_DURATION_ordinal, by decide, by decide⟩
      · subst q; exact ⟨r_DAY_TIME_DURATION, rfl, F_DAY_TIME_DURATION_ordinal, by decide, by decide⟩
      · subst q; exact ⟨r_DURATION, rfl, F_DURATION_ordinal, by decide, by decide⟩
      · subst q; exact ⟨r_G_YEAR_MONTH, rfl, F_G_YEAR_MONTH_ordinal, by decide, by decide⟩
      · subst q; exact ⟨r_G_YEAR, rfl, F_G_YEAR_ordinal, by decide, by decide⟩
      · subst q; exact ⟨r_G_MONTH_DAY, rfl, F_G_MONTH_DAY_ordinal, by decide, by decide⟩
      · subst q; exact ⟨r_G_DAY, rfl, F_G_DAY_ordinal, by decide, by decide⟩
      · subst q; exact ⟨r_G_MONTH, rfl, F_G_MONTH_ordinal, by decide, by decide⟩
      · subst q; exact ⟨r_QNAME, rfl, F_QNAME_ordinal, by decide, by decide⟩
    have H_G_YEAR : r_G_YEAR = t ↔ jj = (15 : Int32) := ⟨fun q => Value.int.inj (own_fld_eq Ft (q ▸ F_G_YEAR_ordinal)), fun q => by subst q; exact Value.ref.inj ht⟩
    refine own_go (fun _ hr => XS.iload X101.here hx rfl (hb hby at_202) rfl (own_aaload X101 hx hZ e101 f101 jj (.ref t) hjb ht rfl rfl rfl (hb hby at_204) hr)) ?_
    show own_Go p e below _ (T101.setTop (mkF m 205 #[.val (.int x0), .val (.int x1), .val (.ref b1), .val (.int (15 : Int32)), .val (.int jj), .val (.int (0 : Int32))] [(.ref t), (.ref r_G_YEAR)]))
    have K375 := (K98.wr W101 (Or.inr sz3))
    have f376 := (F_G_YEAR_promotion.keep K375 nin0)
    have Z377 := (Nat.le_trans (Nat.le_trans (Nat.le_trans (Nat.le_trans (Nat.le_trans (Nat.le_trans (Nat.le_trans (Nat.le_trans (Nat.le_trans (Nat.le_trans (Nat.le_trans (Nat.le_trans (Nat.le_trans (Nat.le_trans (Nat.le_trans (Nat.le_trans (Nat.le_trans (Nat.le_trans (Nat.le_trans (Nat.le_trans (Nat.le_trans Z0 E1.1) (Nat.le_of_eq W7.size.symm)) (Nat.le_of_eq W11.size.symm)) (Nat.le_of_eq W16.size.symm)) (Nat.le_of_eq W21.size.symm)) (Nat.le_of_eq W26.size.symm)) (Nat.le_of_eq W31.size.symm)) (Nat.le_of_eq W36.size.symm)) (Nat.le_of_eq W41.size.symm)) (Nat.le_of_eq W46.size.symm)) (Nat.le_of_eq W51.size.symm)) (Nat.le_of_eq W56.size.symm)) (Nat.le_of_eq W61.size.symm)) (Nat.le_of_eq W66.size.symm)) (Nat.le_of_eq W71.size.symm)) (Nat.le_of_eq W76.size.symm)) (Nat.le_of_eq W81.size.symm)) (Nat.le_of_eq W86.size.symm)) (Nat.le_of_eq W91.size.symm)) (Nat.le_of_eq W96.size.symm)) (Nat.le_of_eq W101.size.symm))
    have f378 := (((((f82.wr W81).wr W86).wr W91).wr W96).wr W101)
    refine own_cv X101 hx hZ hown (notFace_of_selects (args := #[]) (mvT hZ (hw _ (own_m 48 rfl)))) (hw _ (own_m 45 rfl)) (hw _ (own_m 46 rfl)) (hw _ (own_m 48 rfl)) (hw _ (own_m 47 rfl)) (hw _ (own_m 3 rfl)) (hw _ (own_m 49 rfl)) (by decide) f378 (rm := { frames := 0, cells := 0, slots := 0, locals := 0 }) (rm_pr15 l Z a0 hw [] r_G_YEAR t jj h101 n0 Z377 f376 H_G_YEAR) (by decide) (W := 0) (by decide) (by decide) (by decide) e101 (by rw [hml]; rfl) (argsL := [(.ref t)]) (lenOf own_pd0 rfl) (rest := []) rfl rfl (Nat.le_of_eq rfl) (hb hby at_205) ?_
    intro _ T374 L374 X374 hQ374
    obtain ⟨rfl, N374q, e374⟩ := hQ374
    have N374 := Fr.app N101 N374q
    show own_Go p e below _ (T374.setTop (mkF m 208 #[.val (.int x0), .val (.int x1), .val (.ref b1), .val (.int (15 : Int32)), .val (.int jj), .val (.int (0 : Int32))] [(.int (own_p15 jj))]))
    refine own_go (fun _ hr => XS.iload X374.here hx rfl (hb hby at_208) rfl hr) ?_
    show own_Go p e below _ (T374.setTop (mkF m 210 #[.val (.int x0), .val (.int x1), .val (.ref b1), .val (.int (15 : Int32)), .val (.int jj), .val (.int (0 : Int32))] [(.int (0 : Int32)), (.int (own_p15 jj))]))
    have c379 : (own_p15 jj) = (0 : Int32) := by
                        have q := hj20
                        have p0 := c367
                        clear hj20 ht Ft hjb
                        simp only [Int32.lt_iff_toInt_lt, ← Int32.toInt_inj, Int32.reduceToInt] at p0
                        rcases q with q | q | q | q | q | q | q | q | q | q | q | q | q | q | q | q | q | q | q | q <;> subst q <;> first | decide | (exfalso; revert p0; decide)
    refine own_go (fun _ hr => XS.icmpNo X374.here hx rfl (hb hby at_210) rfl (teq c379).2 hr) ?_
    show own_Go p e below _ (T374.setTop (mkF m 213 #[.val (.int x0), .val (.int x1), .val (.ref b1), .val (.int (15 : Int32)), .val (.int jj), .val (.int (0 : Int32))] []))
    refine own_go (fun _ hr => XS.iconst X374.here hx rfl (hb hby at_213) (XS.goto X374.here hx rfl (pc0 := 214) (pc' := 218) rfl (hb hby at_214) (by decide) (by decide) hr)) ?_
    show own_Go p e below _ (T374.setTop (mkF m 218 #[.val (.int x0), .val (.int x1), .val (.ref b1), .val (.int (15 : Int32)), .val (.int jj), .val (.int (0 : Int32))] [(.int (1 : Int32))]))
    exact own_retN X374 hx hlk Bd.returns (t := .boolean) (by simp) (hb hby at_218) (by decide) (by decide) ⟨rfl, N374⟩
  · rw [hk105]
    show own_Go p e below _ (T101.setTop (mkF m 157 #[.val (.int x0), .val (.int x1), .val (.ref b1), .val (.int (16 : Int32)), .val (.int jj), .unset] []))
    refine own_go (fun _ hr => XS.iloadN X101.here hx rfl (hb hby at_157) rfl (XS.iload X101.here hx rfl (hb hby at_158) rfl hr)) ?_
    show own_Go p e below _ (T101.setTop (mkF m 160 #[.val (.int x0), .val (.int x1), .val (.ref b1), .val (.int (16 : Int32)), .val (.int jj), .unset] [(.int jj), (.int (16 : Int32))]))
    by_cases c380 : (16 : Int32) = jj
    · refine own_go (fun _ hr => XS.icmpYes X101.here hx rfl (pc0 := 160) (pc' := 191) rfl (hb hby at_160) rfl (teq c380).1 (by decide) (by decide) hr) ?_
      show own_Go p e below _ (T101.setTop (mkF m 191 #[.val (.int x0), .val (.int x1), .val (.ref b1), .val (.int (16 : Int32)), .val (.int jj), .unset] []))
      refine own_go (fun _ hr => XS.iconst X101.here hx rfl (hb hby at_191) (XS.goto X101.here hx rfl (pc0 := 192) (pc' := 196) rfl (hb hby at_192) (by decide) (by decide) (XS.istore X101.here hx rfl (hb hby at_196) rfl (l' := #[.val (.int x0), .val (.int x1), .val (.ref b1), .val (.int (16 : Int32)), .val (.int jj), .val (.int (1 : Int32))]) rfl (XS.aloadN X101.here hx rfl (hb hby at_198) rfl rfl (XS.iloadN X101.here hx rfl (hb hby at_199) rfl (own_aaload X101 hx hZ e101 f101 (16 : Int32) (.ref r_G_MONTH_DAY) ⟨by decide, by decide⟩ rfl rfl rfl rfl (hb hby at_200) (XS.aloadN X101.here hx rfl (hb hby at_201) rfl rfl hr))))))) ?_
      show own_Go p e below _ (T101.setTop (mkF m 202 #[.val (.int x0), .val (.int x1), .val (.ref b1), .val (.int (16 : Int32)), .val (.int jj), .val (.int (1 : Int32))] [(.ref b1), (.ref r_G_MONTH_DAY)]))
      obtain ⟨t, ht, Ft, hjb⟩ : ∃ t, ([(.ref r_DOUBLE), (.ref r_FLOAT), (.ref r_DECIMAL), (.ref r_INTEGER), (.ref r_STRING), (.ref r_ANY_URI), (.ref r_UNTYPED_ATOMIC), (.ref r_BOOLEAN), (.ref r_DATE_TIME), (.ref r_DATE), (.ref r_TIME), (.ref r_YEAR_MONTH_DURATION), (.ref r_DAY_TIME_DURATION), (.ref r_DURATION), (.ref r_G_YEAR_MONTH), (.ref r_G_YEAR), (.ref r_G_MONTH_DAY), (.ref r_G_DAY), (.ref r_G_MONTH), (.ref r_QNAME)] : List Value).getD jj.toNatClampNeg .null = .ref t ∧ Fld Z h0 t "java/lang/Enum" "ordinal" "I" (.int jj) ∧ (¬ jj < 0 ∧ jj < 20) := by
        rcases hj20 with q | q | q | q | q | q | q | q | q | q | q | q | q | q | q | q | q | q | q | q
        · subst q; exact ⟨r_DOUBLE, rfl, F_DOUBLE_ordinal, by decide, by decide⟩
        · subst q; exact ⟨r_FLOAT, rfl, F_FLOAT_ordinal, by decide, by decide⟩
        · subst q; exact ⟨r_DECIMAL, rfl, F_DECIMAL_ordinal, by decide, by decide⟩
        · subst q; exact ⟨r_INTEGER, rfl, F_INTEGER_ordinal, by decide, by decide⟩
        · subst q; exact ⟨r_STRING, rfl, F_STRING_ordinal, by decide, by decide⟩
        · subst q; exact ⟨r_ANY_URI, rfl, F_ANY_URI_ordinal, by decide, by decide⟩
        · subst q; exact ⟨r_UNTYPED_ATOMIC, rfl, F_UNTYPED_ATOMIC_ordinal, by decide, by decide⟩
        · subst q; exact ⟨r_BOOLEAN, rfl, F_BOOLEAN_ordinal, by decide, by decide⟩
        · subst q; exact ⟨r_DATE_TIME, rfl, F_DATE_TIME_ordinal, by decide, by decide⟩
        · subst q; exact ⟨r_DATE, rfl, F_DATE_ordinal, by decide, by decide⟩
        · subst q; exact ⟨r_TIME, rfl, F_TIME_ordinal, by decide, by decide⟩
        · subst q; exact ⟨r_YEAR_MONTH_DURATION, rfl, F_YEAR_MONTH_DURATION_ordinal, by decide, by decide⟩
        · subst q; exact ⟨r_DAY_TIME_DURATION, rfl, F_DAY_TIME_DURATION_ordinal, by decide, by decide⟩
        · subst q; exact ⟨r_DURATION, rfl, F_DURATION_ordinal, by decide, by decide⟩
        · subst q; exact ⟨r_G_YEAR_MONTH, rfl, F_G_YEAR_MONTH_ordinal, by decide, by decide⟩
        · subst q; exact ⟨r_G_YEAR, rfl, F_G_YEAR_ordinal, by decide, by decide⟩
        · subst q; exact ⟨r_G_MONTH_DAY, rfl, F_G_MONTH_DAY_ordinal, by decide, by decide⟩
        · subst q; exact ⟨r_G_DAY, rfl, F_G_DAY_ordinal, by decide, by decide⟩
        · subst q; exact ⟨r_G_MONTH, rfl, F_G_MONTH_ordinal, by decide, by decide⟩
        · subst q; exact ⟨r_QNAME, rfl, F_QNAME_ordinal, by decide, by decide⟩
      have H_G_MONTH_DAY : r_G_MONTH_DAY = t ↔ jj = (16 : Int32) := ⟨fun q => Value.int.inj (own_fld_eq Ft (q ▸ F_G_MONTH_DAY_ordinal)), fun q => by subst q; exact Value.ref.inj ht⟩
      refine own_go (fun _ hr => XS.iload X101.here hx rfl (hb hby at_202) rfl (own_aaload X101 hx hZ e101 f101 jj (.ref t) hjb ht rfl rfl rfl (hb hby at_204) hr)) ?_
      show own_Go p e below _ (T101.setTop (mkF m 205 #[.val (.int x0), .val (.int x1), .val (.ref b1), .val (.int (16 : Int32)), .val (.int jj), .val (.int (1 : Int32))] [(.ref t), (.ref r_G_MONTH_DAY)]))
      have K382 := (K98.wr W101 (Or.inr sz3))
      have f383 := (F_G_MONTH_DAY_promotion.keep K382 nin0)
      have Z384 := (Nat.le_trans (Nat.le_trans (Nat.le_trans (Nat.le_trans (Nat.le_trans (Nat.le_trans (Nat.le_trans (Nat.le_trans (Nat.le_trans (Nat.le_trans (Nat.le_trans (Nat.le_trans (Nat.le_trans (Nat.le_trans (Nat.le_trans (Nat.le_trans (Nat.le_trans (Nat.le_trans (Nat.le_trans (Nat.le_trans (Nat.le_trans Z0 E1.1) (Nat.le_of_eq W7.size.symm)) (Nat.le_of_eq W11.size.symm)) (Nat.le_of_eq W16.size.symm)) (Nat.le_of_eq W21.size.symm)) (Nat.le_of_eq W26.size.symm)) (Nat.le_of_eq W31.size.symm)) (Nat.le_of_eq W36.size.symm)) (Nat.le_of_eq W41.size.symm)) (Nat.le_of_eq W46.size.symm)) (Nat.le_of_eq W51.size.symm)) (Nat.le_of_eq W56.size.symm)) (Nat.le_of_eq W61.size.symm)) (Nat.le_of_eq W66.size.symm)) (Nat.le_of_eq W71.size.symm)) (Nat.le_of_eq W76.size.symm)) (Nat.le_of_eq W81.size.symm)) (Nat.le_of_eq W86.size.symm)) (Nat.le_of_eq W91.size.symm)) (Nat.le_of_eq W96.size.symm)) (Nat.le_of_eq W101.size.symm))
      have f385 := ((((f87.wr W86).wr W91).wr W96).wr W101)
      refine own_cv X101 hx hZ hown (notFace_of_selects (args := #[]) (mvT hZ (hw _ (own_m 48 rfl)))) (hw _ (own_m 45 rfl)) (hw _ (own_m 46 rfl)) (hw _ (own_m 48 rfl)) (hw _ (own_m 47 rfl)) (hw _ (own_m 3 rfl)) (hw _ (own_m 49 rfl)) (by decide) f385 (rm := { frames := 0, cells := 0, slots := 0, locals := 0 }) (rm_pr16 l Z a0 hw [] r_G_MONTH_DAY t jj h101 n0 Z384 f383 H_G_MONTH_DAY) (by decide) (W := 0) (by decide) (by decide) (by decide) e101 (by rw [hml]; rfl) (argsL := [(.ref t)]) (lenOf own_pd0 rfl) (rest := []) rfl rfl (Nat.le_of_eq rfl) (hb hby at_205) ?_
      intro _ T381 L381 X381 hQ381
      obtain ⟨rfl, N381q, e381⟩ := hQ381
      have N381 := Fr.app N101 N381q
      show own_Go p e below _ (T381.setTop (mkF m 208 #[.val (.int x0), .val (.int x1), .val (.ref b1), .val (.int (16 : Int32)), .val (.int jj), .val (.int (1 : Int32))] [(.int (own_p16 jj))]))
      refine own_go (fun _ hr => XS.iload X381.here hx rfl (hb hby at_208) rfl hr) ?_
      show own_Go p e below _ (T381.setTop (mkF m 210 #[.val (.int x0), .val (.int x1), .val (.ref b1), .val (.int (16 : Int32)), .val (.int jj), .val (.int (1 : Int32))] [(.int (1 : Int32)), (.int (own_p16 jj))]))
      have c386 : (own_p16 jj) = (1 : Int32) := by
                        have q := hj20
                        have p0 := c380
                        clear hj20 ht Ft hjb
                        simp only [Int32.lt_iff_toInt_lt, ← Int32.toInt_inj, Int32.reduceToInt] at p0
                        rcases q with q | q | q | q | q | q | q | q | q | q | q | q | q | q | q | q | q | q | q | q <;> subst q <;> first | decide | (exfalso; revert p0; decide)
      refine own_go (fun _ hr => XS.icmpNo X381.here hx rfl (hb hby at_210) rfl (teq c386).2 hr) ?_
      show own_Go p e below _ (T381.setTop (mkF m 213 #[.val (.int x0), .val (.int x1), .val (.ref b1), .val (.int (16 : Int32)), .val (.int jj), .val (.int (1 : Int32))] []))
      refine own_go (fun _ hr => XS.iconst X381.here hx rfl (hb hby at_213) (XS.goto X381.here hx rfl (pc0 := 214) (pc' := 218) rfl (hb hby at_214) (by decide) (by decide) hr)) ?_
      show own_Go p e below _ (T381.setTop (mkF m 218 #[.val (.int x0), .val (.int x1), .val (.ref b1), .val (.int (16 : Int32)), .val (.int jj), .val (.int (1 : Int32))] [(.int (1 : Int32))]))
      exact own_retN X381 hx hlk Bd.returns (t := .boolean) (by simp) (hb hby at_218) (by decide) (by decide) ⟨rfl, N381⟩
    refine own_go (fun _ hr => XS.icmpNo X101.here hx rfl (hb hby at_160) rfl (feq c380).1 hr) ?_
    show own_Go p e below _ (T101.setTop (mkF m 163 #[.val (.int x0), .val (.int x1), .val (.ref b1), .val (.int (16 : Int32)), .val (.int jj), .unset] []))
    refine own_go (fun _ hr => XS.iloadN X101.here hx rfl (hb hby at_163) rfl (XS.iconst X101.here hx rfl (hb hby at_164) (XS.icmpYes X101.here hx rfl (pc0 := 165) (pc' := 174) rfl (hb hby at_165) rfl (tlt (by decide)).2.2.1 (by decide) (by decide) (XS.iloadN X101.here hx rfl (hb hby at_174) rfl (XS.iconst X101.here hx rfl (hb hby at_175) (XS.icmpNo X101.here hx rfl (hb hby at_176) rfl (feq (by decide)).1 (XS.iloadN X101.here hx rfl (hb hby at_179) rfl (XS.bipush X101.here hx rfl (hb hby at_180) (XS.icmpYes X101.here hx rfl (pc0 := 182) (pc' := 195) rfl (hb hby at_182) rfl (feq (by decide)).2 (by decide) (by decide) (XS.iconst X101.here hx rfl (hb hby at_195) hr)))))))))) ?_
    show own_Go p e below _ (T101.setTop (mkF m 196 #[.val (.int x0), .val (.int x1), .val (.ref b1), .val (.int (16 : Int32)), .val (.int jj), .unset] [(.int (0 : Int32))]))
    refine own_go (fun _ hr => XS.istore X101.here hx rfl (hb hby at_196) rfl (l' := #[.val (.int x0), .val (.int x1), .val (.ref b1), .val (.int (16 : Int32)), .val (.int jj), .val (.int (0 : Int32))]) rfl (XS.aloadN X101.here hx rfl (hb hby at_198) rfl rfl (XS.iloadN X101.here hx rfl (hb hby at_199) rfl (own_aaload X101 hx hZ e101 f101 (16 : Int32) (.ref r_G_MONTH_DAY) ⟨by decide, by decide⟩ rfl rfl rfl rfl (hb hby at_200) (XS.aloadN X101.here hx rfl (hb hby at_201) rfl rfl hr))))) ?_
    show own_Go p e below _ (T101.setTop (mkF m 202 #[.val (.int x0), .val (.int x1), .val (.ref b1), .val (.int (16 : Int32)), .val (.int jj), .val (.int (0 : Int32))] [(.ref b1), (.ref r_G_MONTH_DAY)]))
    obtain ⟨t, ht, Ft, hjb⟩ : ∃ t, ([(.ref r_DOUBLE), (.ref r_FLOAT), (.ref r_DECIMAL), (.ref r_INTEGER), (.ref r_STRING), (.ref r_ANY_URI), (.ref r_UNTYPED_ATOMIC), (.ref r_BOOLEAN), (.ref r_DATE_TIME), (.ref r_DATE), (.ref r_TIME), (.ref r_YEAR_MONTH_DURATION), (.ref r_DAY_TIME_DURATION), (.ref r_DURATION), (.ref r_G_YEAR_MONTH), (.ref r_G_YEAR), (.ref r_G_MONTH_DAY), (.ref r_G_DAY), (.ref r_G_MONTH), (.ref r_QNAME)] : List Value).getD jj.toNatClampNeg .null = .ref t ∧ Fld Z h0 t "java/lang/Enum" "ordinal" "I" (.int jj) ∧ (¬ jj < 0 ∧ jj < 20) := by
      rcases hj20 with q | q | q | q | q | q | q | q | q | q | q | q | q | q | q | q | q | q | q | q
      · subst q; exact ⟨r_DOUBLE, rfl, F_DOUBLE_ordinal, by decide, by decide⟩
      · subst q; exact ⟨r_FLOAT, rfl, F_FLOAT_ordinal, by decide, by decide⟩
      · subst q; exact ⟨r_DECIMAL, rfl, F_DECIMAL_ordinal, by decide, by decide⟩
      · subst q; exact ⟨r_INTEGER, rfl, F_INTEGER_ordinal, by decide, by decide⟩
      · subst q; exact ⟨r_STRING, rfl, F_STRING_ordinal, by decide, by decide⟩
      · subst q; exact ⟨r_ANY_URI, rfl, F_ANY_URI_ordinal, by decide, by decide⟩
      · subst q; exact ⟨r_UNTYPED_ATOMIC, rfl, F_UNTYPED_ATOMIC_ordinal, by decide, by decide⟩
      · subst q; exact ⟨r_BOOLEAN, rfl, F_BOOLEAN_ordinal, by decide, by decide⟩
      · subst q; exact ⟨r_DATE_TIME, rfl, F_DATE_TIME_ordinal, by decide, by decide⟩
      · subst q; exact ⟨r_DATE, rfl, F_DATE_ordinal, by decide, by decide⟩
      · subst q; exact ⟨r_TIME, rfl, F_TIME_ordinal, by decide, by decide⟩
      · subst q; exact ⟨r_YEAR_MONTH_DURATION, rfl, F_YEAR_MONTH_DURATION_ordinal, by decide, by decide⟩
      · subst q; exact ⟨r_DAY_TIME_DURATION, rfl, F_DAY_TIME_DURATION_ordinal, by decide, by decide⟩
      · subst q; exact ⟨r_DURATION, rfl, F_DURATION_ordinal, by decide, by decide⟩
      · subst q; exact ⟨r_G_YEAR_MONTH, rfl, F_G_YEAR_MONTH_ordinal, by decide, by decide⟩
      · subst q; exact ⟨r_G_YEAR, rfl, F_G_YEAR_ordinal, by decide, by decide⟩
      · subst q; exact ⟨r_G_MONTH_DAY, rfl, F_G_MONTH_DAY_ordinal, by decide, by decide⟩
      · subst q; exact ⟨r_G_DAY, rfl, F_G_DAY_ordinal, by decide, by decide⟩
      · subst q; exact ⟨r_G_MONTH, rfl, F_G_MONTH_ordinal, by decide, by decide⟩
      · subst q; exact ⟨r_QNAME, rfl, F_QNAME_ordinal, by decide, by decide⟩
    have H_G_MONTH_DAY : r_G_MONTH_DAY = t ↔ jj = (16 : Int32) := ⟨fun q => Value.int.inj (own_fld_eq Ft (q ▸ F_G_MONTH_DAY_ordinal)), fun q => by subst q; exact Value.ref.inj ht⟩
    refine own_go (fun _ hr => XS.iload X101.here hx rfl (hb hby at_202) rfl (own_aaload X101 hx hZ e101 f101 jj (.ref t) hjb ht rfl rfl rfl (hb hby at_204) hr)) ?_
    show own_Go p e below _ (T101.setTop (mkF m 205 #[.val (.int x0), .val (.int x1), .val (.ref b1), .val (.int (16 : Int32)), .val (.int jj), .val (.int (0 : Int32))] [(.ref t), (.ref r_G_MONTH_DAY)]))
    have K388 := (K98.wr W101 (Or.inr sz3))
    have f389 := (F_G_MONTH_DAY_promotion.keep K388 nin0)
    have Z390 := (Nat.le_trans (Nat.le_trans (Nat.le_trans (Nat.le_trans (Nat.le_trans (Nat.le_trans (Nat.le_trans (Nat.le_trans (Nat.le_trans (Nat.le_trans (Nat.le_trans (Nat.le_trans (Nat.le_trans (Nat.le_trans (Nat.le_trans (Nat.le_trans (Nat.le_trans (Nat.le_trans (Nat.le_trans (Nat.le_trans (Nat.le_trans Z0 E1.1) (Nat.le_of_eq W7.size.symm)) (Nat.le_of_eq W11.size.symm)) (Nat.le_of_eq W16.size.symm)) (Nat.le_of_eq W21.size.symm)) (Nat.le_of_eq W26.size.symm)) (Nat.le_of_eq W31.size.symm)) (Nat.le_of_eq W36.size.symm)) (Nat.le_of_eq W41.size.symm)) (Nat.le_of_eq W46.size.symm)) (Nat.le_of_eq W51.size.symm)) (Nat.le_of_eq W56.size.symm)) (Nat.le_of_eq W61.size.symm)) (Nat.le_of_eq W66.size.symm)) (Nat.le_of_eq W71.size.symm)) (Nat.le_of_eq W76.size.symm)) (Nat.le_of_eq W81.size.symm)) (Nat.le_of_eq W86.size.symm)) (Nat.le_of_eq W91.size.symm)) (Nat.le_of_eq W96.size.symm)) (Nat.le_of_eq W101.size.symm))
    have f391 := ((((f87.wr W86).wr W91).wr W96).wr W101)
    refine own_cv X101 hx hZ hown (notFace_of_selects (args := #[]) (mvT hZ (hw _ (own_m 48 rfl)))) (hw _ (own_m 45 rfl)) (hw _ (own_m 46 rfl)) (hw _ (own_m 48 rfl)) (hw _ (own_m 47 rfl)) (hw _ (own_m 3 rfl)) (hw _ (own_m 49 rfl)) (by decide) f391 (rm := { frames := 0, cells := 0, slots := 0, locals := 0 }) (rm_pr16 l Z a0 hw [] r_G_MONTH_DAY t jj h101 n0 Z390 f389 H_G_MONTH_DAY) (by decide) (W := 0) (by decide) (by decide) (by decide) e101 (by rw [hml]; rfl) (argsL := [(.ref t)]) (lenOf own_pd0 rfl) (rest := []) rfl rfl (Nat.le_of_eq rfl) (hb hby at_205) ?_
    intro _ T387 L387 X387 hQ387
    obtain ⟨rfl, N387q, e387⟩ := hQ387
    have N387 := Fr.app N101 N387q
    show own_Go p e below _ (T387.setTop (mkF m 208 #[.val (.int x0), .val (.int x1), .val (.ref b1), .val (.int (16 : Int32)), .val (.int jj), .val (.int (0 : Int32))] [(.int (own_p16 jj))]))
    refine own_go (fun _ hr => XS.iload X387.here hx rfl (hb hby at_208) rfl hr) ?_
    show own_Go p e below _ (T387.setTop (mkF m 210 #[.val (.int x0), .val (.int x1), .val (.ref b1), .val (.int (16 : Int32)), .val (.int jj), .val (.int (0 : Int32))] [(.int (0 : Int32)), (.int (own_p16 jj))]))
    have c392 : (own_p16 jj) = (0 : Int32) := by
                        have q := hj20
                        have p0 := c380
                        clear hj20 ht Ft hjb
                        simp only [Int32.lt_iff_toInt_lt, ← Int32.toInt_inj, Int32.reduceToInt] at p0
                        rcases q with q | q | q | q | q | q | q | q | q | q | q | q | q | q | q | q | q | q | q | q <;> subst q <;> first | decide | (exfalso; revert p0; decide)
    refine own_go (fun _ hr => XS.icmpNo X387.here hx rfl (hb hby at_210) rfl (teq c392).2 hr) ?_
    show own_Go p e below _ (T387.setTop (mkF m 213 #[.val (.int x0), .val (.int x1), .val (.ref b1), .val (.int (16 : Int32)), .val (.int jj), .val (.int (0 : Int32))] []))
    refine own_go (fun _ hr => XS.iconst X387.here hx rfl (hb hby at_213) (XS.goto X387.here hx rfl (pc0 := 214) (pc' := 218) rfl (hb hby at_214) (by decide) (by decide) hr)) ?_
    show own_Go p e below _ (T387.setTop (mkF m 218 #[.val (.int x0), .val (.int x1), .val (.ref b1), .val (.int (16 : Int32)), .val (.int jj), .val (.int (0 : Int32))] [(.int (1 : Int32))]))
    exact own_retN X387 hx hlk Bd.returns (t := .boolean) (by simp) (hb hby at_218) (by decide) (by decide) ⟨rfl, N387⟩
  · rw [hk105]
    show own_Go p e below _ (T101.setTop (mkF m 157 #[.val (.int x0), .val (.int x1), .val (.ref b1), .val (.int (17 : Int32)), .val (.int jj), .unset] []))
    refine own_go (fun _ hr => XS.iloadN X101.here hx rfl (hb hby at_157) rfl (XS.iload X101.here hx rfl (hb hby at_158) rfl hr)) ?_
    show own_Go p e below _ (T101.setTop (mkF m 160 #[.val (.int x0), .val (.int x1), .val (.ref b1), .val (.int (17 : Int32)), .val (.int jj), .unset] [(.int jj), (.int (17 : Int32))]))
    by_cases c393 : (17 : Int32) = jj
    · refine own_go (fun _ hr => XS.icmpYes X101.here hx rfl (pc0 := 160) (pc' := 191) rfl (hb hby at_160) rfl (teq c393).1 (by decide) (by decide) hr) ?_
      show own_Go p e below _ (T101.setTop (mkF m 191 #[.val (.int x0), .val (.int x1), .val (.ref b1), .val (.int (17 : Int32)), .val (.int jj), .unset] []))
      refine own_go (fun _ hr => XS.iconst X101.here hx rfl (hb hby at_191) (XS.goto X101.here hx rfl (pc0 := 192) (pc' := 196) rfl (hb hby at_192) (by decide) (by decide) (XS.istore X101.here hx rfl (hb hby at_196) rfl (l' := #[.val (.int x0), .val (.int x1), .val (.ref b1), .val (.int (17 : Int32)), .val (.int jj), .val (.int (1 : Int32))]) rfl (XS.aloadN X101.here hx rfl (hb hby at_198) rfl rfl (XS.iloadN X101.here hx rfl (hb hby at_199) rfl (own_aaload X101 hx hZ e101 f101 (17 : Int32) (.ref r_G_DAY) ⟨by decide, by decide⟩ rfl rfl rfl rfl (hb hby at_200) (XS.aloadN X101.here hx rfl (hb hby at_201) rfl rfl hr))))))) ?_
      show own_Go p e below _ (T101.setTop (mkF m 202 #[.val (.int x0), .val (.int x1), .val (.ref b1), .val (.int (17 : Int32)), .val (.int jj), .val (.int (1 : Int32))] [(.ref b1), (.ref r_G_DAY)]))
      obtain ⟨t, ht, Ft, hjb⟩ : ∃ t, ([(.ref r_DOUBLE), (.ref r_FLOAT), (.ref r_DECIMAL), (.ref r_INTEGER), (.ref r_STRING), (.ref r_ANY_URI), (.ref r_UNTYPED_ATOMIC), (.ref r_BOOLEAN), (.ref r_DATE_TIME), (.ref r_DATE), (.ref r_TIME), (.ref r_YEAR_MONTH_DURATION), (.ref r_DAY_TIME_DURATION), (.ref r_DURATION), (.ref r_G_YEAR_MONTH), (.ref r_G_YEAR), (.ref r_G_MONTH_DAY), (.ref r_G_DAY), (.ref r_G_MONTH), (.ref r_QNAME)] : List Value).getD jj.toNatClampNeg .null = .ref t ∧ Fld Z h0 t "java/lang/Enum" "ordinal" "I" (.int jj) ∧ (¬ jj < 0 ∧ jj < 20) := by
        rcases hj20 with q | q | q | q | q | q | q | q | q | q | q | q | q | q | q | q | q | q | q | q
        · subst q; exact ⟨r_DOUBLE, rfl, F_DOUBLE_ordinal, by decide, by decide⟩
        · subst q; exact ⟨r_FLOAT, rfl, F_FLOAT_ordinal, by decide, by decide⟩
        · subst q; exact ⟨r_DECIMAL, rfl, F_DECIMAL_ordinal, by decide, by decide⟩
        · subst q; exact ⟨r_INTEGER, rfl, F_INTEGER_ordinal, by decide, by decide⟩
        · subst q; exact ⟨r_STRING, rfl, F_STRING_ordinal, by decide, by decide⟩
        · subst q; exact ⟨r_ANY_URI, rfl, F_ANY_URI_ordinal, by decide, by decide⟩
        · subst q; exact ⟨r_UNTYPED_ATOMIC, rfl, F_UNTYPED_ATOMIC_ordinal, by decide, by decide⟩
        · subst q; exact ⟨r_BOOLEAN, rfl, F_BOOLEAN_ordinal, by decide, by decide⟩
        · subst q; exact ⟨r_DATE_TIME, rfl, F_DATE_TIME_ordinal, by decide, by decide⟩
        · subst q; exact ⟨r_DATE, rfl, F_DATE_ordinal, by decide, by decide⟩
        · subst q; exact ⟨r_TIME, rfl, F_TIME_ordinal, by decide, by decide⟩
        · subst q; exact ⟨r_YEAR_MONTH_DURATION, rfl, F_YEAR_MONTH_DURATION_ordinal, by decide, by decide⟩
        · subst q; exact ⟨r_DAY_TIME_DURATION, rfl, F_DAY_TIME_DURATION_ordinal, by decide, by decide⟩
        · subst q; exact ⟨r_DURATION, rfl, F_DURATION_ordinal, by decide, by decide⟩
        · subst q; exact ⟨r_G_YEAR_MONTH, rfl, F_G_YEAR_MONTH_ordinal, by decide, by decide⟩
        · subst q; exact ⟨r_G_YEAR, rfl, F_G_YEAR_ordinal, by decide, by decide⟩
        · subst q; exact ⟨r_G_MONTH_DAY, rfl, F_G_MONTH_DAY_ordinal, by decide, by decide⟩
        · subst q; exact ⟨r_G_DAY, rfl, F_G_DAY_ordinal, by decide, by decide⟩
        · subst q; exact ⟨r_G_MONTH, rfl, F_G_MONTH_ordinal, by decide, by decide⟩
        · subst q; exact ⟨r_QNAME, rfl, F_QNAME_ordinal, by decide, by decide⟩
      have H_G_DAY : r_G_DAY = t ↔ jj = (17 : Int32) := ⟨fun q => Value.int.inj (own_fld_eq Ft (q ▸ F_G_DAY_ordinal)), fun q => by subst q; exact Value.ref.inj ht⟩
      refine own_go (fun _ hr => XS.iload X101.here hx rfl (hb hby at_202) rfl (own_aaload X101 hx hZ e101 f101 jj (.ref t) hjb ht rfl rfl rfl (hb hby at_204) hr)) ?_
      show own_Go p e below _ (T101.setTop (mkF m 205 #[.val (.int x0), .val (.int x1), .val (.ref b1), .val (.int (17 : Int32)), .val (.int jj), .val (.int (1 : Int32))] [(.ref t), (.ref r_G_DAY)]))
      have K395 := (K98.wr W101 (Or.inr sz3))
      have f396 := (F_G_DAY_promotion.keep K395 nin0)
      have Z397 := (Nat.le_trans (Nat.le_trans (Nat.le_trans (Nat.le_trans (Nat.le_trans (Nat.le_trans (Nat.le_trans (Nat.le_trans (Nat.le_trans (Nat.le_trans (Nat.le_trans (Nat.le_trans (Nat.le_trans (Nat.le_trans (Nat.le_trans (Nat.le_trans (Nat.le_trans (Nat.le_trans (Nat.le_trans (Nat.le_trans (Nat.le_trans Z0 E1.1) (Nat.le_of_eq W7.size.symm)) (Nat.le_of_eq W11.size.symm)) (Nat.le_of_eq W16.size.symm)) (Nat.le_of_eq W21.size.symm)) (Nat.le_of_eq W26.size.symm)) (Nat.le_of_eq W31.size.symm)) (Nat.le_of_eq W36.size.symm)) (Nat.le_of_eq W41.size.symm)) (Nat.le_of_eq W46.size.symm)) (Nat.le_of_eq W51.size.symm)) (Nat.le_of_eq W56.size.symm)) (Nat.le_of_eq W61.size.symm)) (Nat.le_of_eq W66.size.symm)) (Nat.le_of_eq W71.size.symm)) (Nat.le_of_eq W76.size.symm)) (Nat.le_of_eq W81.size.symm)) (Nat.le_of_eq W86.size.symm)) (Nat.le_of_eq W91.size.symm)) (Nat.le_of_eq W96.size.symm)) (Nat.le_of_eq W101.size.symm))
      have f398 := (((f92.wr W91).wr W96).wr W101)
      refine own_cv X101 hx hZ hown (notFace_of_selects (args := #[]) (mvT hZ (hw _ (own_m 48 rfl)))) (hw _ (own_m 45 rfl)) (hw _ (own_m 46 rfl)) (hw _ (own_m 48 rfl)) (hw _ (own_m 47 rfl)) (hw _ (own_m 3 rfl)) (hw _ (own_m 49 rfl)) (by decide) f398 (rm := { frames := 0, cells := 0, slots := 0, locals := 0 }) (rm_pr17 l Z a0 hw [] r_G_DAY t jj h101 n0 Z397 f396 H_G_DAY) (by decide) (W := 0) (by decide) (by decide) (by decide) e101 (by rw [hml]; rfl) (argsL := [(.ref t)]) (lenOf own_pd0 rfl) (rest := []) rfl rfl (Nat.le_of_eq rfl) (hb hby at_205) ?_
      intro _ T394 L394 X394 hQ394
      obtain ⟨rfl, N394q, e394⟩ := hQ394
      have N394 := Fr.app N101 N394q
      show own_Go p e below _ (T394.setTop (mkF m 208 #[.val (.int x0), .val (.int x1), .val (.ref b1), .val (.int (17 : Int32)), .val (.int jj), .val (.int (1 : Int32))] [(.int (own_p17 jj))]))
      refine own_go (fun _ hr => XS.iload X394.here hx rfl (hb hby at_208) rfl hr) ?_
      show own_Go p e below _ (T394.setTop (mkF m 210 #[.val (.int x0), .val (.int x1), .val (.ref b1), .val (.int (17 : Int32)), .val (.int jj), .val (.int (1 : Int32))] [(.int (1 : Int32)), (.int (own_p17 jj))]))
      have c399 : (own_p17 jj) = (1 : Int32) := by
                        have q := hj20
                        have p0 := c393
                        clear hj20 ht Ft hjb
                        simp only [Int32.lt_iff_toInt_lt, ← Int32.toInt_inj, Int32.reduceToInt] at p0
                        rcases q with q | q | q | q | q | q | q | q | q | q | q | q | q | q | q | q | q | q | q | q <;> subst q <;> first | decide | (exfalso; revert p0; decide)
      refine own_go (fun _ hr => XS.icmpNo X394.here hx rfl (hb hby at_210) rfl (teq c399).2 hr) ?_
      show own_Go p e below _ (T394.setTop (mkF m 213 #[.val (.int x0), .val (.int x1), .val (.ref b1), .val (.int (17 : Int32)), .val (.int jj), .val (.int (1 : Int32))] []))
      refine own_go (fun _ hr => XS.iconst X394.here hx rfl (hb hby at_213) (XS.goto X394.here hx rfl (pc0 := 214) (pc' := 218) rfl (hb hby at_214) (by decide) (by decide) hr)) ?_
      show own_Go p e below _ (T394.setTop (mkF m 218 #[.val (.int x0), .val (.int x1), .val (.ref b1), .val (.int (17 : Int32)), .val (.int jj), .val (.int (1 : Int32))] [(.int (1 : Int32))]))
      exact own_retN X394 hx hlk Bd.returns (t := .boolean) (by simp) (hb hby at_218) (by decide) (by decide) ⟨rfl, N394⟩
    refine own_go (fun _ hr => XS.icmpNo X101.here hx rfl (hb hby at_160) rfl (feq c393).1 hr) ?_
    show own_Go p e below _ (T101.setTop (mkF m 163 #[.val (.int x0), .val (.int x1), .val (.ref b1), .val (.int (17 : Int32)), .val (.int jj), .unset] []))
    refine own_go (fun _ hr => XS.iloadN X101.here hx rfl (hb hby at_163) rfl (XS.iconst X101.here hx rfl (hb hby at_164) (XS.icmpYes X101.here hx rfl (pc0 := 165) (pc' := 174) rfl (hb hby at_165) rfl (tlt (by decide)).2.2.1 (by decide) (by decide) (XS.iloadN X101.here hx rfl (hb hby at_174) rfl (XS.iconst X101.here hx rfl (hb hby at_175) (XS.icmpNo X101.here hx rfl (hb hby at_176) rfl (feq (by decide)).1 (XS.iloadN X101.here hx rfl (hb hby at_179) rfl (XS.bipush X101.here hx rfl (hb hby at_180) (XS.icmpYes X101.here hx rfl (pc0 := 182) (pc' := 195) rfl (hb hby at_182) rfl (feq (by decide)).2 (by decide) (by decide) (XS.iconst X101.here hx rfl (hb hby at_195) hr)))))))))) ?_
    show own_Go p e below _ (T101.setTop (mkF m 196 #[.val (.int x0), .val (.int x1), .val (.ref b1), .val (.int (17 : Int32)), .val (.int jj), .unset] [(.int (0 : Int32))]))
    refine own_go (fun _ hr => XS.istore X101.here hx rfl (hb hby at_196) rfl (l' := #[.val (.int x0), .val (.int x1), .val (.ref b1), .val (.int (17 : Int32)), .val (.int jj), .val (.int (0 : Int32))]) rfl (XS.aloadN X101.here hx rfl (hb hby at_198) rfl rfl (XS.iloadN X101.here hx rfl (hb hby at_199) rfl (own_aaload X101 hx hZ e101 f101 (17 : Int32) (.ref r_G_DAY) ⟨by decide, by decide⟩ rfl rfl rfl rfl (hb hby at_200) (XS.aloadN X101.here hx rfl (hb hby at_201) rfl rfl hr))))) ?_
    show own_Go p e below _ (T101.setTop (mkF m 202 #[.val (.int x0), .val (.int x1), .val (.ref b1), .val (.int (17 : Int32)), .val (.int jj), .val (.int (0 : Int32))] [(.ref b1), (.ref r_G_DAY)]))
    obtain ⟨t, ht, Ft, hjb⟩ : ∃ t, ([(.ref r_DOUBLE), (.ref r_FLOAT), (.ref r_DECIMAL), (.ref r_INTEGER), (.ref r_STRING), (.ref r_ANY_URI), (.ref r_UNTYPED_ATOMIC), (.ref r_BOOLEAN), (.ref r_DATE_TIME), (.ref r_DATE), (.ref r_TIME), (.ref r_YEAR_MONTH_DURATION), (.ref r_DAY_TIME_DURATION), (.ref r_DURATION), (.ref r_G_YEAR_MONTH), (.ref r_G_YEAR), (.ref r_G_MONTH_DAY), (.ref r_G_DAY), (.ref r_G_MONTH), (.ref r_QNAME)] : List Value).getD jj.toNatClampNeg .null = .ref t ∧ Fld Z h0 t "java/lang/Enum" "ordinal" "I" (.int jj) ∧ (¬ jj < 0 ∧ jj < 20) := by
      rcases hj20 with q | q | q | q | q | q | q | q | q | q | q | q | q | q | q | q | q | q | q | q
      · subst q; exact ⟨r_DOUBLE, rfl, F_DOUBLE_ordinal, by decide, by decide⟩
      · subst q; exact ⟨r_FLOAT, rfl, F_FLOAT_ordinal, by decide, by decide⟩
      · subst q; exact ⟨r_DECIMAL, rfl, F_DECIMAL_ordinal, by decide, by decide⟩
      · subst q; exact ⟨r_INTEGER, rfl, F_INTEGER_ordinal, by decide, by decide⟩
      · subst q; exact ⟨r_STRING, rfl, F_STRING_ordinal, by decide, by decide⟩
      · subst q; exact ⟨r_ANY_URI, rfl, F_ANY_URI_ordinal, by decide, by decide⟩
      · subst q; exact ⟨r_UNTYPED_ATOMIC, rfl, F_UNTYPED_ATOMIC_ordinal, by decide, by decide⟩
      · subst q; exact ⟨r_BOOLEAN, rfl, F_BOOLEAN_ordinal, by decide, by decide⟩
      · subst q; exact ⟨r_DATE_TIME, rfl, F_DATE_TIME_ordinal, by decide, by decide⟩
      · subst q; exact ⟨r_DATE, rfl, F_DATE_ordinal, by decide, by decide⟩
      · subst q; exact ⟨r_TIME, rfl, F_TIME_ordinal, by decide, by decide⟩
      · subst q; exact ⟨r_YEAR_MONTH_DURATION, rfl, F_YEAR_MONTH_DURATION_ordinal, by decide, by decide⟩
      · subst q; exact ⟨r_DAY_TIME_DURATION, rfl, F_DAY_TIME_DURATION_ordinal, by decide, by decide⟩
      · subst q; exact ⟨r_DURATION, rfl, F_DURATION_ordinal, by decide, by decide⟩
      · subst q; exact ⟨r_G_YEAR_MONTH, rfl, F_G_YEAR_MONTH_ordinal, by decide, by decide⟩
      · subst q; exact ⟨r_G_YEAR, rfl, F_G_YEAR_ordinal, by decide, by decide⟩
      · subst q; exact ⟨r_G_MONTH_DAY, rfl, F_G_MONTH_DAY_ordinal, by decide, by decide⟩
      · subst q; exact ⟨r_G_DAY, rfl, F_G_DAY_ordinal, by decide, by decide⟩
      · subst q; exact ⟨r_G_MONTH, rfl, F_G_MONTH_ordinal, by decide, by decide⟩
      · subst q; exact ⟨r_QNAME, rfl, F_QNAME_ordinal, by decide, by decide⟩
    have H_G_DAY : r_G_DAY = t ↔ jj = (17 : Int32) := ⟨fun q => Value.int.inj (own_fld_eq Ft (q ▸ F_G_DAY_ordinal)), fun q => by subst q; exact Value.ref.inj ht⟩
    refine own_go (fun _ hr => XS.iload X101.here hx rfl (hb hby at_202) rfl (own_aaload X101 hx hZ e101 f101 jj (.ref t) hjb ht rfl rfl rfl (hb hby at_204) hr)) ?_
    show own_Go p e below _ (T101.setTop (mkF m 205 #[.val (.int x0), .val (.int x1), .val (.ref b1), .val (.int (17 : Int32)), .val (.int jj), .val (.int (0 : Int32))] [(.ref t), (.ref r_G_DAY)]))
    have K401 := (K98.wr W101 (Or.inr sz3))
    have f402 := (F_G_DAY_promotion.keep K401 nin0)
    have Z403 := (Nat.le_trans (Nat.le_trans (Nat.le_trans (Nat.le_trans (Nat.le_trans (Nat.le_trans (Nat.le_trans (Nat.le_trans (Nat.le_trans (Nat.le_trans (Nat.le_trans (Nat.le_trans (Nat.le_trans (Nat.le_trans (Nat.le_trans (Nat.le_trans (Nat.le_trans (Nat.le_trans (Nat.le_trans (Nat.le_trans (Nat.le_trans Z0 E1.1) (Nat.le_of_eq W7.size.symm)) (Nat.le_of_eq W11.size.symm)) (Nat.le_of_eq W16.size.symm)) (Nat.le_of_eq W21.size.symm)) (Nat.le_of_eq W26.size.symm)) (Nat.le_of_eq W31.size.symm)) (Nat.le_of_eq W36.size.symm)) (Nat.le_of_eq W41.size.symm)) (Nat.le_of_eq W46.size.symm)) (Nat.le_of_eq W51.size.symm)) (Nat.le_of_eq W56.size.symm)) (Nat.le_of_eq W61.size.symm)) (Nat.le_of_eq W66.size.symm)) (Nat.le_of_eq W71.size.symm)) (Nat.le_of_eq W76.size.symm)) (Nat.le_of_eq W81.size.symm)) (Nat.le_of_eq W86.size.symm)) (Nat.le_of_eq W91.size.symm)) (Nat.le_of_eq W96.size.symm)) (Nat.le_of_eq W101.size.symm))
    have f404 := (((f92.wr W91).wr W96).wr W101)
    refine own_cv X101 hx hZ hown (notFace_of_selects (args := #[]) (mvT hZ (hw _ (own_m 48 rfl)))) (hw _ (own_m 45 rfl)) (hw _ (own_m 46 rfl)) (hw _ (own_m 48 rfl)) (hw _ (own_m 47 rfl)) (hw _ (own_m 3 rfl)) (hw _ (own_m 49 rfl)) (by decide) f404 (rm := { frames := 0, cells := 0, slots := 0, locals := 0 }) (rm_pr17 l Z a0 hw [] r_G_DAY t jj h101 n0 Z403 f402 H_G_DAY) (by decide) (W := 0) (by decide) (by decide) (by decide) e101 (by rw [hml]; rfl) (argsL := [(.ref t)]) (lenOf own_pd0 rfl) (rest := []) rfl rfl (Nat.le_of_eq rfl) (hb hby at_205) ?_
    intro _ T400 L400 X400 hQ400
    obtain ⟨rfl, N400q, e400⟩ := hQ400
    have N400 := Fr.app N101 N400q
    show own_Go p e below _ (T400.setTop (mkF m 208 #[.val (.int x0), .val (.int x1), .val (.ref b1), .val (.int (17 : Int32)), .val (.int jj), .val (.int (0 : Int32))] [(.int (own_p17 jj))]))
    refine own_go (fun _ hr => XS.iload X400.here hx rfl (hb hby at_208) rfl hr) ?_
    show own_Go p e below _ (T400.setTop (mkF m 210 #[.val (.int x0), .val (.int x1), .val (.ref b1), .val (.int (17 : Int32)), .val (.int jj), .val (.int (0 : Int32))] [(.int (0 : Int32)), (.int (own_p17 jj))]))
    have c405 : (own_p17 jj) = (0 : Int32) := by
                        have q := hj20
                        have p0 := c393
                        clear hj20 ht Ft hjb
                        simp only [Int32.lt_iff_toInt_lt, ← Int32.toInt_inj, Int32.reduceToInt] at p0
                        rcases q with q | q | q | q | q | q | q | q | q | q | q | q | q | q | q | q | q | q | q | q <;> subst q <;> first | decide | (exfalso; revert p0; decide)
    refine own_go (fun _ hr => XS.icmpNo X400.here hx rfl (hb hby at_210) rfl (teq c405).2 hr) ?_
    show own_Go p e below _ (T400.setTop (mkF m 213 #[.val (.int x0), .val (.int x1), .val (.ref b1), .val (.int (17 : Int32)), .val (.int jj), .val (.int (0 : Int32))] []))
    refine own_go (fun _ hr => XS.iconst X400.here hx rfl (hb hby at_213) (XS.goto X400.here hx rfl (pc0 := 214) (pc' := 218) rfl (hb hby at_214) (by decide) (by decide) hr)) ?_
    show own_Go p e below _ (T400.setTop (mkF m 218 #[.val (.int x0), .val (.int x1), .val (.ref b1), .val (.int (17 : Int32)), .val (.int jj), .val (.int (0 : Int32))] [(.int (1 : Int32))]))
    exact own_retN X400 hx hlk Bd.returns (t := .boolean) (by simp) (hb hby at_218) (by decide) (by decide) ⟨rfl, N400⟩
  · rw [hk105]
    show own_Go p e below _ (T101.setTop (mkF m 157 #[.val (.int x0), .val (.int x1), .val (.ref b1), .val (.int (18 : Int32)), .val (.int jj), .unset] []))
    refine own_go (fun _ hr => XS.iloadN X101.here hx rfl (hb hby at_157) rfl (XS.iload X101.here hx rfl (hb hby at_158) rfl hr)) ?_
    show own_Go p e below _ (T101.setTop (mkF m 160 #[.val (.int x0), .val (.int x1), .val (.ref b1), .val (.int (18 : Int32)), .val (.int jj), .unset] [(.int jj), (.int (18 : Int32))]))
    by_cases c406 : (18 : Int32) = jj
    · refine own_go (fun _ hr => XS.icmpYes X101.here hx rfl (pc0 := 160) (pc' := 191) rfl (hb hby at_160) rfl (teq c406).1 (by decide) (by decide) hr) ?_
      show own_Go p e below _ (T101.setTop (mkF m 191 #[.val (.int x0), .val (.int x1), .val (.ref b1), .val (.int (18 : Int32)), .val (.int jj), .unset] []))
      refine own_go (fun _ hr => XS.iconst X101.here hx rfl (hb hby at_191) (XS.goto X101.here hx rfl (pc0 := 192) (pc' := 196) rfl (hb hby at_192) (by decide) (by decide) (XS.istore X101.here hx rfl (hb hby at_196) rfl (l' := #[.val (.int x0), .val (.int x1), .val (.ref b1), .val (.int (18 : Int32)), .val (.int jj), .val (.int (1 : Int32))]) rfl (XS.aloadN X101.here hx rfl (hb hby at_198) rfl rfl (XS.iloadN X101.here hx rfl (hb hby at_199) rfl (own_aaload X101 hx hZ e101 f101 (18 : Int32) (.ref r_G_MONTH) ⟨by decide, by decide⟩ rfl rfl rfl rfl (hb hby at_200) (XS.aloadN X101.here hx rfl (hb hby at_201) rfl rfl hr))))))) ?_
      show own_Go p e below _ (T101.setTop (mkF m 202 #[.val (.int x0), .val (.int x1), .val (.ref b1), .val (.int (18 : Int32)), .val (.int jj), .val (.int (1 : Int32))] [(.ref b1), (.ref r_G_MONTH)]))
      obtain ⟨t, ht, Ft, hjb⟩ : ∃ t, ([(.ref r_DOUBLE), (.ref r_FLOAT), (.ref r_DECIMAL), (.ref r_INTEGER), (.ref r_STRING), (.ref r_ANY_URI), (.ref r_UNTYPED_ATOMIC), (.ref r_BOOLEAN), (.ref r_DATE_TIME), (.ref r_DATE), (.ref r_TIME), (.ref r_YEAR_MONTH_DURATION), (.ref r_DAY_TIME_DURATION), (.ref r_DURATION), (.ref r_G_YEAR_MONTH), (.ref r_G_YEAR), (.ref r_G_MONTH_DAY), (.ref r_G_DAY), (.ref r_G_MONTH), (.ref r_QNAME)] : List Value).getD jj.toNatClampNeg .null = .ref t ∧ Fld Z h0 t "java/lang/Enum" "ordinal" "I" (.int jj) ∧ (¬ jj < 0 ∧ jj < 20) := by
        rcases hj20 with q | q | q | q | q | q | q | q | q | q | q | q | q | q | q | q | q | q | q | q
        · subst q; exact ⟨r_DOUBLE, rfl, F_DOUBLE_ordinal, by decide, by decide⟩
        · subst q; exact ⟨r_FLOAT, rfl, F_FLOAT_ordinal, by decide, by decide⟩
        · subst q; exact ⟨r_DECIMAL, rfl, F_DECIMAL_ordinal, by decide, by decide⟩
        · subst q; exact ⟨r_INTEGER, rfl, F_INTEGER_ordinal, by decide, by decide⟩
        · subst q; exact ⟨r_STRING, rfl, F_STRING_ordinal, by decide, by decide⟩
        · subst q; exact ⟨r_ANY_URI, rfl, F_ANY_URI_ordinal, by decide, by decide⟩
        · subst q; exact ⟨r_UNTYPED_ATOMIC, rfl, F_UNTYPED_ATOMIC_ordinal, by decide, by decide⟩
        · subst q; exact ⟨r_BOOLEAN, rfl, F_BOOLEAN_ordinal, by decide, by decide⟩
        · subst q; exact ⟨r_DATE_TIME, rfl, F_DATE_TIME_ordinal, by decide, by decide⟩
        · subst q; exact ⟨r_DATE, rfl, F_DATE_ordinal, by decide, by decide⟩
        · subst q; exact ⟨r_TIME, rfl, F_TIME_ordinal, by decide, by decide⟩
        · subst q; exact ⟨r_YEAR_MONTH_DURATION, rfl, F_YEAR_MONTH_DURATION_ordinal, by decide, by decide⟩
        · subst q; exact ⟨r_DAY_TIME_DURATION, rfl, F_DAY_TIME_DURATION_ordinal, by decide, by decide⟩
        · subst q; exact ⟨r_DURATION, rfl, F_DURATION_ordinal, by decide, by decide⟩
        · subst q; exact ⟨r_G_YEAR_MONTH, rfl, F_G_YEAR_MONTH_ordinal, by decide, by decide⟩
        · subst q; exact ⟨r_G_YEAR, rfl, F_G_YEAR_ordinal, by decide, by decide⟩
        · subst q; exact ⟨r_G_MONTH_DAY, rfl, F_G_MONTH_DAY_ordinal, by decide, by decide⟩
        · subst q; exact ⟨r_G_DAY, rfl, F_G_DAY_ordinal, by decide, by decide⟩
        · subst q; exact ⟨r_G_MONTH, rfl, F_G_MONTH_ordinal, by decide, by decide⟩
        · subst q; exact ⟨r_QNAME, rfl, F_QNAME_ordinal, by decide, by decide⟩
      have H_G_MONTH : r_G_MONTH = t ↔ jj = (18 : Int32) := ⟨fun q => Value.int.inj (own_fld_eq Ft (q ▸ F_G_MONTH_ordinal)), fun q => by subst q; exact Value.ref.inj ht⟩
      refine own_go (fun _ hr => XS.iload X101.here hx rfl (hb hby at_202) rfl (own_aaload X101 hx hZ e101 f101 jj (.ref t) hjb ht rfl rfl rfl (hb hby at_204) hr)) ?_
      show own_Go p e below _ (T101.setTop (mkF m 205 #[.val (.int x0), .val (.int x1), .val (.ref b1), .val (.int (18 : Int32)), .val (.int jj), .val (.int (1 : Int32))] [(.ref t), (.ref r_G_MONTH)]))
      have K408 := (K98.wr W101 (Or.inr sz3))
      have f409 := (F_G_MONTH_promotion.keep K408 nin0)
      have Z410 := (Nat.le_trans (Nat.le_trans (Nat.le_trans (Nat.le_trans (Nat.le_trans (Nat.le_trans (Nat.le_trans (Nat.le_trans (Nat.le_trans (Nat.le_trans (Nat.le_trans (Nat.le_trans (Nat.le_trans (Nat.le_trans (Nat.le_trans (Nat.le_trans (Nat.le_trans (Nat.le_trans (Nat.le_trans (Nat.le_trans (Nat.le_trans Z0 E1.1) (Nat.le_of_eq W7.size.symm)) (Nat.le_of_eq W11.size.symm)) (Nat.le_of_eq W16.size.symm)) (Nat.le_of_eq W21.size.symm)) (Nat.le_of_eq W26.size.symm)) (Nat.le_of_eq W31.size.symm)) (Nat.le_of_eq W36.size.symm)) (Nat.le_of_eq W41.size.symm)) (Nat.le_of_eq W46.size.symm)) (Nat.le_of_eq W51.size.symm)) (Nat.le_of_eq W56.size.symm)) (Nat.le_of_eq W61.size.symm)) (Nat.le_of_eq W66.size.symm)) (Nat.le_of_eq W71.size.symm)) (Nat.le_of_eq W76.size.symm)) (Nat.le_of_eq W81.size.symm)) (Nat.le_of_eq W86.size.symm)) (Nat.le_of_eq W91.size.symm)) (Nat.le_of_eq W96.size.symm)) (Nat.le_of_eq W101.size.symm))
      have f411 := ((f97.wr W96).wr W101)
      refine own_cv X101 hx hZ hown (notFace_of_selects (args := #[]) (mvT hZ (hw _ (own_m 48 rfl)))) (hw _ (own_m 45 rfl)) (hw _ (own_m 46 rfl)) (hw _ (own_m 48 rfl)) (hw _ (own_m 47 rfl)) (hw _ (own_m 3 rfl)) (hw _ (own_m 49 rfl)) (by decide) f411 (rm := { frames := 0, cells := 0, slots := 0, locals := 0 }) (rm_pr18 l Z a0 hw [] r_G_MONTH t jj h101 n0 Z410 f409 H_G_MONTH) (by decide) (W := 0) (by decide) (by decide) (by decide) e101 (by rw [hml]; rfl) (argsL := [(.ref t)]) (lenOf own_pd0 rfl) (rest := []) rfl rfl (Nat.le_of_eq rfl) (hb hby at_205) ?_
      intro _ T407 L407 X407 hQ407
      obtain ⟨rfl, N407q, e407⟩ := hQ407
      have N407 := Fr.app N101 N407q
      show own_Go p e below _ (T407.setTop (mkF m 208 #[.val (.int x0), .val (.int x1), .val (.ref b1), .val (.int (18 : Int32)), .val (.int jj), .val (.int (1 : Int32))] [(.int (own_p18 jj))]))
      refine own_go (fun _ hr => XS.iload X407.here hx rfl (hb hby at_208) rfl hr) ?_
      show own_Go p e below _ (T407.setTop (mkF m 210 #[.val (.int x0), .val (.int x1), .val (.ref b1), .val (.int (18 : Int32)), .val (.int jj), .val (.int (1 : Int32))] [(.int (1 : Int32)), (.int (own_p18 jj))]))
      have c412 : (own_p18 jj) = (1 : Int32) := by
                        have q := hj20
                        have p0 := c406
                        clear hj20 ht Ft hjb
                        simp only [Int32.lt_iff_toInt_lt, ← Int32.toInt_inj, Int32.reduceToInt] at p0
                        rcases q with q | q | q | q | q | q | q | q | q | q | q | q | q | q | q | q | q | q | q | q <;> subst q <;> first | decide | (exfalso; revert p0; decide)
      refine own_go (fun _ hr => XS.icmpNo X407.here hx rfl (hb hby at_210) rfl (teq c412).2 hr) ?_
      show own_Go p e below _ (T407.setTop (mkF m 213 #[.val (.int x0), .val (.int x1), .val (.ref b1), .val (.int (18 : Int32)), .val (.int jj), .val (.int (1 : Int32))] []))
      refine own_go (fun _ hr => XS.iconst X407.here hx rfl (hb hby at_213) (XS.goto X407.here hx rfl (pc0 := 214) (pc' := 218) rfl (hb hby at_214) (by decide) (by decide) hr)) ?_
      show own_Go p e below _ (T407.setTop (mkF m 218 #[.val (.int x0), .val (.int x1), .val (.ref b1), .val (.int (18 : Int32)), .val (.int jj), .val (.int (1 : Int32))] [(.int (1 : Int32))]))
      exact own_retN X407 hx hlk Bd.returns (t := .boolean) (by simp) (hb hby at_218) (by decide) (by decide) ⟨rfl, N407⟩
    refine own_go (fun _ hr => XS.icmpNo X101.here hx rfl (hb hby at_160) rfl (feq c406).1 hr) ?_
    show own_Go p e below _ (T101.setTop (mkF m 163 #[.val (.int x0), .val (.int x1), .val (.ref b1), .val (.int (18 : Int32)), .val (.int jj), .unset] []))
    refine own_go (fun _ hr => XS.iloadN X101.here hx rfl (hb hby at_163) rfl (XS.iconst X101.here hx rfl (hb hby at_164) (XS.icmpYes X101.here hx rfl (pc0 := 165) (pc' := 174) rfl (hb hby at_165) rfl (tlt (by decide)).2.2.1 (by decide) (by decide) (XS.iloadN X101.here hx rfl (hb hby at_174) rfl (XS.iconst X101.here hx rfl (hb hby at_175) (XS.icmpNo X101.here hx rfl (hb hby at_176) rfl (feq (by decide)).1 (XS.iloadN X101.here hx rfl (hb hby at_179) rfl (XS.bipush X101.here hx rfl (hb hby at_180) (XS.icmpYes X101.here hx rfl (pc0 := 182) (pc' := 195) rfl (hb hby at_182) rfl (feq (by decide)).2 (by decide) (by decide) (XS.iconst X101.here hx rfl (hb hby at_195) hr)))))))))) ?_
    show own_Go p e below _ (T101.setTop (mkF m 196 #[.val (.int x0), .val (.int x1), .val (.ref b1), .val (.int (18 : Int32)), .val (.int jj), .unset] [(.int (0 : Int32))]))
    refine own_go (fun _ hr => XS.istore X101.here hx rfl (hb hby at_196) rfl (l' := #[.val (.int x0), .val (.int x1), .val (.ref b1), .val (.int (18 : Int32)), .val (.int jj), .val (.int (0 : Int32))]) rfl (XS.aloadN X101.here hx rfl (hb hby at_198) rfl rfl (XS.iloadN X101.here hx rfl (hb hby at_199) rfl (own_aaload X101 hx hZ e101 f101 (18 : Int32) (.ref r_G_MONTH) ⟨by decide, by decide⟩ rfl rfl rfl rfl (hb hby at_200) (XS.aloadN X101.here hx rfl (hb hby at_201) rfl rfl hr))))) ?_
    show own_Go p e below _ (T101.setTop (mkF m 202 #[.val (.int x0), .val (.int x1), .val (.ref b1), .val (.int (18 : Int32)), .val (.int jj), .val (.int (0 : Int32))] [(.ref b1), (.ref r_G_MONTH)]))
    obtain ⟨t, ht, Ft, hjb⟩ : ∃ t, ([(.ref r_DOUBLE), (.ref r_FLOAT), (.ref r_DECIMAL), (.ref r_INTEGER), (.ref r_STRING), (.ref r_ANY_URI), (.ref r_UNTYPED_ATOMIC), (.ref r_BOOLEAN), (.ref r_DATE_TIME), (.ref r_DATE), (.ref r_TIME), (.ref r_YEAR_MONTH_DURATION), (.ref r_DAY_TIME_DURATION), (.ref r_DURATION), (.ref r_G_YEAR_MONTH), (.ref r_G_YEAR), (.ref r_G_MONTH_DAY), (.ref r_G_DAY), (.ref r_G_MONTH), (.ref r_QNAME)] : List Value).getD jj.toNatClampNeg .null = .ref t ∧ Fld Z h0 t "java/lang/Enum" "ordinal" "I" (.int jj) ∧ (¬ jj < 0 ∧ jj < 20) := by
      rcases hj20 with q | q | q | q | q | q | q | q | q | q | q | q | q | q | q | q | q | q | q | q
      · subst q; exact ⟨r_DOUBLE, rfl, F_DOUBLE_ordinal, by decide, by decide⟩
      · subst q; exact ⟨r_FLOAT, rfl, F_FLOAT_ordinal, by decide, by decide⟩
      · subst q; exact ⟨r_DECIMAL, rfl, F_DECIMAL_ordinal, by decide, by decide⟩
      · subst q; exact ⟨r_INTEGER, rfl, F_INTEGER_ordinal, by decide, by decide⟩
      · subst q; exact ⟨r_STRING, rfl, F_STRING_ordinal, by decide, by decide⟩
      · subst q; exact ⟨r_ANY_URI, rfl, F_ANY_URI_ordinal, by decide, by decide⟩
      · subst q; exact ⟨r_UNTYPED_ATOMIC, rfl, F_UNTYPED_ATOMIC_ordinal, by decide, by decide⟩
      · subst q; exact ⟨r_BOOLEAN, rfl, F_BOOLEAN_ordinal, by decide, by decide⟩
      · subst q; exact ⟨r_DATE_TIME, rfl, F_DATE_TIME_ordinal, by decide, by decide⟩
      · subst q; exact ⟨r_DATE, rfl, F_DATE_ordinal, by decide, by decide⟩
      · subst q; exact ⟨r_TIME, rfl, F_TIME_ordinal, by decide, by decide⟩
      · subst q; exact ⟨r_YEAR_MONTH_DURATION, rfl, F_YEAR_MONTH_DURATION_ordinal, by decide, by decide⟩
      · subst q; exact ⟨r_DAY_TIME_DURATION, rfl, F_DAY_TIME_DURATION_ordinal, by decide, by decide⟩
      · subst q; exact ⟨r_DURATION, rfl, F_DURATION_ordinal, by decide, by decide⟩
      · subst q; exact ⟨r_G_YEAR_MONTH, rfl, F_G_YEAR_MONTH_ordinal, by decide, by decide⟩
      · subst q; exact ⟨r_G_YEAR, rfl, F_G_YEAR_ordinal, by decide, by decide⟩
      · subst q; exact ⟨r_G_MONTH_DAY, rfl, F_G_MONTH_DAY_ordinal, by decide, by decide⟩
      · subst q; exact ⟨r_G_DAY, rfl, F_G_DAY_ordinal, by decide, by decide⟩
      · subst q; exact ⟨r_G_MONTH, rfl, F_G_MONTH_ordinal, by decide, by decide⟩
      · subst q; exact ⟨r_QNAME, rfl, F_QNAME_ordinal, by decide, by decide⟩
    have H_G_MONTH : r_G_MONTH = t ↔ jj = (18 : Int32) := ⟨fun q => Value.int.inj (own_fld_eq Ft (q ▸ F_G_MONTH_ordinal)), fun q => by subst q; exact Value.ref.inj ht⟩
    refine own_go (fun _ hr => XS.iload X101.here hx rfl (hb hby at_202) rfl (own_aaload X101 hx hZ e101 f101 jj (.ref t) hjb ht rfl rfl rfl (hb hby at_204) hr)) ?_
    show own_Go p e below _ (T101.setTop (mkF m 205 #[.val (.int x0), .val (.int x1), .val (.ref b1), .val (.int (18 : Int32)), .val (.int jj), .val (.int (0 : Int32))] [(.ref t), (.ref r_G_MONTH)]))
    have K414 := (K98.wr W101 (Or.inr sz3))
    have f415 := (F_G_MONTH_promotion.keep K414 nin0)
    have Z416 := (Nat.le_trans (Nat.le_trans (Nat.le_trans (Nat.le_trans (Nat.le_trans (Nat.le_trans (Nat.le_trans (Nat.le_trans (Nat.le_trans (Nat.le_trans (Nat.le_trans (Nat.le_trans (Nat.le_trans (Nat.le_trans (Nat.le_trans (Nat.le_trans (Nat.le_trans (Nat.le_trans (Nat.le_trans (Nat.le_trans (Nat.le_trans Z0 E1.1) (Nat.le_of_eq W7.size.symm)) (Nat.le_of_eq W11.size.symm)) (Nat.le_of_eq W16.size.symm)) (Nat.le_of_eq W21.size.symm)) (Nat.le_of_eq W26.size.symm)) (Nat.le_of_eq W31.size.symm)) (Nat.le_of_eq W36.size.symm)) (Nat.le_of_eq W41.size.symm)) (Nat.le_of_eq W46.size.symm)) (Nat.le_of_eq W51.size.symm)) (Nat.le_of_eq W56.size.symm)) (Nat.le_of_eq W61.size.symm)) (Nat.le_of_eq W66.size.symm)) (Nat.le_of_eq W71.size.symm)) (Nat.le_of_eq W76.size.symm)) (Nat.le_of_eq W81.size.symm)) (Nat.le_of_eq W86.size.symm)) (Nat.le_of_eq W91.size.symm)) (Nat.le_of_eq W96.size.symm)) (Nat.le_of_eq W101.size.symm))
    have f417 := ((f97.wr W96).wr W101)
    refine own_cv X101 hx hZ hown (notFace_of_selects (args := #[]) (mvT hZ (hw _ (own_m 48 rfl)))) (hw _ (own_m 45 rfl)) (hw _ (own_m 46 rfl)) (hw _ (own_m 48 rfl)) (hw _ (own_m 47 rfl)) (hw _ (own_m 3 rfl)) (hw _ (own_m 49 rfl)) (by decide) f417 (rm := { frames := 0, cells := 0, slots := 0, locals := 0 }) (rm_pr18 l Z a0 hw [] r_G_MONTH t jj h101 n0 Z416 f415 H_G_MONTH) (by decide) (W := 0) (by decide) (by decide) (by decide) e101 (by rw [hml]; rfl) (argsL := [(.ref t)]) (lenOf own_pd0 rfl) (rest := []) rfl rfl (Nat.le_of_eq rfl) (hb hby at_205) ?_
    intro _ T413 L413 X413 hQ413
    obtain ⟨rfl, N413q, e413⟩ := hQ413
    have N413 := Fr.app N101 N413q
    show own_Go p e below _ (T413.setTop (mkF m 208 #[.val (.int x0), .val (.int x1), .val (.ref b1), .val (.int (18 : Int32)), .val (.int jj), .val (.int (0 : Int32))] [(.int (own_p18 jj))]))
    refine own_go (fun _ hr => XS.iload X413.here hx rfl (hb hby at_208) rfl hr) ?_
    show own_Go p e below _ (T413.setTop (mkF m 210 #[.val (.int x0), .val (.int x1), .val (.ref b1), .val (.int (18 : Int32)), .val (.int jj), .val (.int (0 : Int32))] [(.int (0 : Int32)), (.int (own_p18 jj))]))
    have c418 : (own_p18 jj) = (0 : Int32) := by
                        have q := hj20
                        have p0 := c406
                        clear hj20 ht Ft hjb
                        simp only [Int32.lt_iff_toInt_lt, ← Int32.toInt_inj, Int32.reduceToInt] at p0
                        rcases q with q | q | q | q | q | q | q | q | q | q | q | q | q | q | q | q | q | q | q | q <;> subst q <;> first | decide | (exfalso; revert p0; decide)
    refine own_go (fun _ hr => XS.icmpNo X413.here hx rfl (hb hby at_210) rfl (teq c418).2 hr) ?_
    show own_Go p e below _ (T413.setTop (mkF m 213 #[.val (.int x0), .val (.int x1), .val (.ref b1), .val (.int (18 : Int32)), .val (.int jj), .val (.int (0 : Int32))] []))
    refine own_go (fun _ hr => XS.iconst X413.here hx rfl (hb hby at_213) (XS.goto X413.here hx rfl (pc0 := 214) (pc' := 218) rfl (hb hby at_214) (by decide) (by decide) hr)) ?_
    show own_Go p e below _ (T413.setTop (mkF m 218 #[.val (.int x0), .val (.int x1), .val (.ref b1), .val (.int (18 : Int32)), .val (.int jj), .val (.int (0 : Int32))] [(.int (1 : Int32))]))
    exact own_retN X413 hx hlk Bd.returns (t := .boolean) (by simp) (hb hby at_218) (by decide) (by decide) ⟨rfl, N413⟩
  · rw [hk105]
    show own_Go p e below _ (T101.setTop (mkF m 157 #[.val (.int x0), .val (.int x1), .val (.ref b1), .val (.int (19 : Int32)), .val (.int jj), .unset] []))
    refine own_go (fun _ hr => XS.iloadN X101.here hx rfl (hb hby at_157) rfl (XS.iload X101.here hx rfl (hb hby at_158) rfl hr)) ?_
    show own_Go p e below _ (T101.setTop (mkF m 160 #[.val (.int x0), .val (.int x1), .val (.ref b1), .val (.int (19 : Int32)), .val (.int jj), .unset] [(.int jj), (.int (19 : Int32))]))
    by_cases c419 : (19 : Int32) = jj
    · refine own_go (fun _ hr => XS.icmpYes X101.here hx rfl (pc0 := 160) (pc' := 191) rfl (hb hby at_160) rfl (teq c419).1 (by decide) (by decide) hr) ?_
      show own_Go p e below _ (T101.setTop (mkF m 191 #[.val (.int x0), .val (.int x1), .val (.ref b1), .val (.int (19 : Int32)), .val (.int jj), .unset] []))
      refine own_go (fun _ hr => XS.iconst X101.here hx rfl (hb hby at_191) (XS.goto X101.here hx rfl (pc0 := 192) (pc' := 196) rfl (hb hby at_192) (by decide) (by decide) (XS.istore X101.here hx rfl (hb hby at_196) rfl (l' := #[.val (.int x0), .val (.int x1), .val (.ref b1), .val (.int (19 : Int32)), .val (.int jj), .val (.int (1 : Int32))]) rfl (XS.aloadN X101.here hx rfl (hb hby at_198) rfl rfl (XS.iloadN X101.here hx rfl (hb hby at_199) rfl (own_aaload X101 hx hZ e101 f101 (19 : Int32) (.ref r_QNAME) ⟨by decide, by decide⟩ rfl rfl rfl rfl (hb hby at_200) (XS.aloadN X101.here hx rfl (hb hby at_201) rfl rfl hr))))))) ?_
      show own_Go p e below _ (T101.setTop (mkF m 202 #[.val (.int x0), .val (.int x1), .val (.ref b1), .val (.int (19 : Int32)), .val (.int jj), .val (.int (1 : Int32))] [(.ref b1), (.ref r_QNAME)]))
      obtain ⟨t, ht, Ft, hjb⟩ : ∃ t, ([(.ref r_DOUBLE), (.ref r_FLOAT), (.ref r_DECIMAL), (.ref r_INTEGER), (.ref r_STRING), (.ref r_ANY_URI), (.ref r_UNTYPED_ATOMIC), (.ref r_BOOLEAN), (.ref r_DATE_TIME), (.ref r_DATE), (.ref r_TIME), (.ref r_YEAR_MONTH_DURATION), (.ref r_DAY_TIME_DURATION), (.ref r_DURATION), (.ref r_G_YEAR_MONTH), (.ref r_G_YEAR), (.ref r_G_MONTH_DAY), (.ref r_G_DAY), (.ref r_G_MONTH), (.ref r_QNAME)] : List Value).getD jj.toNatClampNeg .null = .ref t ∧ Fld Z h0 t "java/lang/Enum" "ordinal" "I" (.int jj) ∧ (¬ jj < 0 ∧ jj < 20) := by
        rcases hj20 with q | q | q | q | q | q | q | q | q | q | q | q | q | q | q | q | q | q | q | q
        · subst q; exact ⟨r_DOUBLE, rfl, F_DOUBLE_ordinal, by decide, by decide⟩
        · subst q; exact ⟨r_FLOAT, rfl, F_FLOAT_ordinal, by decide, by decide⟩
        · subst q; exact ⟨r_DECIMAL, rfl, F_DECIMAL_ordinal, by decide, by decide⟩
        · subst q; exact ⟨r_INTEGER, rfl, F_INTEGER_ordinal, by decide, by decide⟩
        · subst q; exact ⟨r_STRING, rfl, F_STRING_ordinal, by decide, by decide⟩
        · subst q; exact ⟨r_ANY_URI, rfl, F_ANY_URI_ordinal, by decide, by decide⟩
        · subst q; exact ⟨r_UNTYPED_ATOMIC, rfl, F_UNTYPED_ATOMIC_ordinal, by decide, by decide⟩
        · subst q; exact ⟨r_BOOLEAN, rfl, F_BOOLEAN_ordinal, by decide, by decide⟩
        · subst q; exact ⟨r_DATE_TIME, rfl, F_DATE_TIME_ordinal, by decide, by decide⟩
        · subst q; exact ⟨r_DATE, rfl, F_DATE_ordinal, by decide, by decide⟩
        · subst q; exact ⟨r_TIME, rfl, F_TIME_ordinal, by decide, by decide⟩
        · subst q; exact ⟨r_YEAR_MONTH_DURATION, rfl, F_YEAR_MONTH_DURATION_ordinal, by decide, by decide⟩
        · subst q; exact ⟨r_DAY_TIME_DURATION, rfl, F_DAY_TIME_DURATION_ordinal, by decide, by decide⟩
        · subst q; exact ⟨r_DURATION, rfl, F_DURATION_ordinal, by decide, by decide⟩
        · subst q; exact ⟨r_G_YEAR_MONTH, rfl, F_G_YEAR_MONTH_ordinal, by decide, by decide⟩
        · subst q; exact ⟨r_G_YEAR, rfl, F_G_YEAR_ordinal, by decide, by decide⟩
        · subst q; exact ⟨r_G_MONTH_DAY, rfl, F_G_MONTH_DAY_ordinal, by decide, by decide⟩
        · subst q; exact ⟨r_G_DAY, rfl, F_G_DAY_ordinal, by decide, by decide⟩
        · subst q; exact ⟨r_G_MONTH, rfl, F_G_MONTH_ordinal, by decide, by decide⟩
        · subst q; exact ⟨r_QNAME, rfl, F_QNAME_ordinal, by decide, by decide⟩
      have H_QNAME : r_QNAME = t ↔ jj = (19 : Int32) := ⟨fun q => Value.int.inj (own_fld_eq Ft (q ▸ F_QNAME_ordinal)), fun q => by subst q; exact Value.ref.inj ht⟩
      refine own_go (fun _ hr => XS.iload X101.here hx rfl (hb hby at_202) rfl (own_aaload X101 hx hZ e101 f101 jj (.ref t) hjb ht rfl rfl rfl (hb hby at_204) hr)) ?_
      show own_Go p e below _ (T101.setTop (mkF m 205 #[.val (.int x0), .val (.int x1), .val (.ref b1), .val (.int (19 : Int32)), .val (.int jj), .val (.int (1 : Int32))] [(.ref t), (.ref r_QNAME)]))
      have K421 := (K98.wr W101 (Or.inr sz3))
      have f422 := (F_QNAME_promotion.keep K421 nin0)
      have Z423 := (Nat.le_trans (Nat.le_trans (Nat.le_trans (Nat.le_trans (Nat.le_trans (Nat.le_trans (Nat.le_trans (Nat.le_trans (Nat.le_trans (Nat.le_trans (Nat.le_trans (Nat.le_trans (Nat.le_trans (Nat.le_trans (Nat.le_trans (Nat.le_trans (Nat.le_trans (Nat.le_trans (Nat.le_trans (Nat.le_trans (Nat.le_trans Z0 E1.1) (Nat.le_of_eq W7.size.symm)) (Nat.le_of_eq W11.size.symm)) (Nat.le_of_eq W16.size.symm)) (Nat.le_of_eq W21.size.symm)) (Nat.le_of_eq W26.size.symm)) (Nat.le_of_eq W31.size.symm)) (Nat.le_of_eq W36.size.symm)) (Nat.le_of_eq W41.size.symm)) (Nat.le_of_eq W46.size.symm)) (Nat.le_of_eq W51.size.symm)) (Nat.le_of_eq W56.size.symm)) (Nat.le_of_eq W61.size.symm)) (Nat.le_of_eq W66.size.symm)) (Nat.le_of_eq W71.size.symm)) (Nat.le_of_eq W76.size.symm)) (Nat.le_of_eq W81.size.symm)) (Nat.le_of_eq W86.size.symm)) (Nat.le_of_eq W91.size.symm)) (Nat.le_of_eq W96.size.symm)) (Nat.le_of_eq W101.size.symm))
      have f424 := (f102.wr W101)
      refine own_cv X101 hx hZ hown (notFace_of_selects (args := #[]) (mvT hZ (hw _ (own_m 48 rfl)))) (hw _ (own_m 45 rfl)) (hw _ (own_m 46 rfl)) (hw _ (own_m 48 rfl)) (hw _ (own_m 47 rfl)) (hw _ (own_m 3 rfl)) (hw _ (own_m 49 rfl)) (by decide) f424 (rm := { frames := 0, cells := 0, slots := 0, locals := 0 }) (rm_pr19 l Z a0 hw [] r_QNAME t jj h101 n0 Z423 f422 H_QNAME) (by decide) (W := 0) (by decide) (by decide) (by decide) e101 (by rw [hml]; rfl) (argsL := [(.ref t)]) (lenOf own_pd0 rfl) (rest := []) rfl rfl (Nat.le_of_eq rfl) (hb hby at_205) ?_
      intro _ T420 L420 X420 hQ420
      obtain ⟨rfl, N420q, e420⟩ := hQ420
      have N420 := Fr.app N101 N420q
      show own_Go p e below _ (T420.setTop (mkF m 208 #[.val (.int x0), .val (.int x1), .val (.ref b1), .val (.int (19 : Int32)), .val (.int jj), .val (.int (1 : Int32))] [(.int (own_p19 jj))]))
      refine own_go (fun _ hr => XS.iload X420.here hx rfl (hb hby at_208) rfl hr) ?_
      show own_Go p e below _ (T420.setTop (mkF m 210 #[.val (.int x0), .val (.int x1), .val (.ref b1), .val (.int (19 : Int32)), .val (.int jj), .val (.int (1 : Int32))] [(.int (1 : Int32)), (.int (own_p19 jj))]))
      have c425 : (own_p19 jj) = (1 : Int32) := by
                        have q := hj20
                        have p0 := c419
                        clear hj20 ht Ft hjb
                        simp only [Int32.lt_iff_toInt_lt, ← Int32.toInt_inj, Int32.reduceToInt] at p0
                        rcases q with q | q | q | q | q | q | q | q | q | q | q | q | q | q | q | q | q | q | q | q <;> subst q <;> first | decide | (exfalso; revert p0; decide)
      refine own_go (fun _ hr => XS.icmpNo X420.here hx rfl (hb hby at_210) rfl (teq c425).2 hr) ?_
      show own_Go p e below _ (T420.setTop (mkF m 213 #[.val (.int x0), .val (.int x1), .val (.ref b1), .val (.int (19 : Int32)), .val (.int jj), .val (.int (1 : Int32))] []))
      refine own_go (fun _ hr => XS.iconst X420.here hx rfl (hb hby at_213) (XS.goto X420.here hx rfl (pc0 := 214) (pc' := 218) rfl (hb hby at_214) (by decide) (by decide) hr)) ?_
      show own_Go p e below _ (T420.setTop (mkF m 218 #[.val (.int x0), .val (.int x1), .val (.ref b1), .val (.int (19 : Int32)), .val (.int jj), .val (.int (1 : Int32))] [(.int (1 : Int32))]))
      exact own_retN X420 hx hlk Bd.returns (t := .boolean) (by simp) (hb hby at_218) (by decide) (by decide) ⟨rfl, N420⟩
    refine own_go (fun _ hr => XS.icmpNo X101.here hx rfl (hb hby at_160) rfl (feq c419).1 hr) ?_
    show own_Go p e below _ (T101.setTop (mkF m 163 #[.val (.int x0), .val (.int x1), .val (.ref b1), .val (.int (19 : Int32)), .val (.int jj), .unset] []))
    refine own_go (fun _ hr => XS.iloadN X101.here hx rfl (hb hby at_163) rfl (XS.iconst X101.here hx rfl (hb hby at_164) (XS.icmpYes X101.here hx rfl (pc0 := 165) (pc' := 174) rfl (hb hby at_165) rfl (tlt (by decide)).2.2.1 (by decide) (by decide) (XS.iloadN X101.here hx rfl (hb hby at_174) rfl (XS.iconst X101.here hx rfl (hb hby at_175) (XS.icmpNo X101.here hx rfl (hb hby at_176) rfl (feq (by decide)).1 (XS.iloadN X101.here hx rfl (hb hby at_179) rfl (XS.bipush X101.here hx rfl (hb hby at_180) (XS.icmpYes X101.here hx rfl (pc0 := 182) (pc' := 195) rfl (hb hby at_182) rfl (feq (by decide)).2 (by decide) (by decide) (XS.iconst X101.here hx rfl (hb hby at_195) hr)))))))))) ?_
    show own_Go p e below _ (T101.setTop (mkF m 196 #[.val (.int x0), .val (.int x1), .val (.ref b1), .val (.int (19 : Int32)), .val (.int jj), .unset] [(.int (0 : Int32))]))
    refine own_go (fun _ hr => XS.istore X101.here hx rfl (hb hby at_196) rfl (l' := #[.val (.int x0), .val (.int x1), .val (.ref b1), .val (.int (19 : Int32)), .val (.int jj), .val (.int (0 : Int32))]) rfl (XS.aloadN X101.here hx rfl (hb hby at_198) rfl rfl (XS.iloadN X101.here hx rfl (hb hby at_199) rfl (own_aaload X101 hx hZ e101 f101 (19 : Int32) (.ref r_QNAME) ⟨by decide, by decide⟩ rfl rfl rfl rfl (hb hby at_200) (XS.aloadN X101.here hx rfl (hb hby at_201) rfl rfl hr))))) ?_
    show own_Go p e below _ (T101.setTop (mkF m 202 #[.val (.int x0), .val (.int x1), .val (.ref b1), .val (.int (19 : Int32)), .val (.int jj), .val (.int (0 : Int32))] [(.ref b1), (.ref r_QNAME)]))
    obtain ⟨t, ht, Ft, hjb⟩ : ∃ t, ([(.ref r_DOUBLE), (.ref r_FLOAT), (.ref r_DECIMAL), (.ref r_INTEGER), (.ref r_STRING), (.ref r_ANY_URI), (.ref r_UNTYPED_ATOMIC), (.ref r_BOOLEAN), (.ref r_DATE_TIME), (.ref r_DATE), (.ref r_TIME), (.ref r_YEAR_MONTH_DURATION), (.ref r_DAY_TIME_DURATION), (.ref r_DURATION), (.ref r_G_YEAR_MONTH), (.ref r_G_YEAR), (.ref r_G_MONTH_DAY), (.ref r_G_DAY), (.ref r_G_MONTH), (.ref r_QNAME)] : List Value).getD jj.toNatClampNeg .null = .ref t ∧ Fld Z h0 t "java/lang/Enum" "ordinal" "I" (.int jj) ∧ (¬ jj < 0 ∧ jj < 20) := by
      rcases hj20 with q | q | q | q | q | q | q | q | q | q | q | q | q | q | q | q | q | q | q | q
      · subst q; exact ⟨r_DOUBLE, rfl, F_DOUBLE_ordinal, by decide, by decide⟩
      · subst q; exact ⟨r_FLOAT, rfl, F_FLOAT_ordinal, by decide, by decide⟩
      · subst q; exact ⟨r_DECIMAL, rfl, F_DECIMAL_ordinal, by decide, by decide⟩
      · subst q; exact ⟨r_INTEGER, rfl, F_INTEGER_ordinal, by decide, by decide⟩
      · subst q; exact ⟨r_STRING, rfl, F_STRING_ordinal, by decide, by decide⟩
      · subst q; exact ⟨r_ANY_URI, rfl, F_ANY_URI_ordinal, by decide, by decide⟩
      · subst q; exact ⟨r_UNTYPED_ATOMIC, rfl, F_UNTYPED_ATOMIC_ordinal, by decide, by decide⟩
      · subst q; exact ⟨r_BOOLEAN, rfl, F_BOOLEAN_ordinal, by decide, by decide⟩
      · subst q; exact ⟨r_DATE_TIME, rfl, F_DATE_TIME_ordinal, by decide, by decide⟩
      · subst q; exact ⟨r_DATE, rfl, F_DATE_ordinal, by decide, by decide⟩
      · subst q; exact ⟨r_TIME, rfl, F_TIME_ordinal, by decide, by decide⟩
      · subst q; exact ⟨r_YEAR_MONTH_DURATION, rfl, F_YEAR_MONTH_DURATION_ordinal, by decide, by decide⟩
      · subst q; exact ⟨r_DAY_TIME_DURATION, rfl, F_DAY_TIME_DURATION_ordinal, by decide, by decide⟩
      · subst q; exact ⟨r_DURATION, rfl, F_DURATION_ordinal, by decide, by decide⟩
      · subst q; exact ⟨r_G_YEAR_MONTH, rfl, F_G_YEAR_MONTH_ordinal, by decide, by decide⟩
      · subst q; exact ⟨r_G_YEAR, rfl, F_G_YEAR_ordinal, by decide, by decide⟩
      · subst q; exact ⟨r_G_MONTH_DAY, rfl, F_G_MONTH_DAY_ordinal, by decide, by decide⟩
      · subst q; exact ⟨r_G_DAY, rfl, F_G_DAY_ordinal, by decide, by decide⟩
      · subst q; exact ⟨r_G_MONTH, rfl, F_G_MONTH_ordinal, by decide, by decide⟩
      · subst q; exact ⟨r_QNAME, rfl, F_QNAME_ordinal, by decide, by decide⟩
    have H_QNAME : r_QNAME = t ↔ jj = (19 : Int32) := ⟨fun q => Value.int.inj (own_fld_eq Ft (q ▸ F_QNAME_ordinal)), fun q => by subst q; exact Value.ref.inj ht⟩
    refine own_go (fun _ hr => XS.iload X101.here hx rfl (hb hby at_202) rfl (own_aaload X101 hx hZ e101 f101 jj (.ref t) hjb ht rfl rfl rfl (hb hby at_204) hr)) ?_
    show own_Go p e below _ (T101.setTop (mkF m 205 #[.val (.int x0), .val (.int x1), .val (.ref b1), .val (.int (19 : Int32)), .val (.int jj), .val (.int (0 : Int32))] [(.ref t), (.ref r_QNAME)]))
    have K427 := (K98.wr W101 (Or.inr sz3))
    have f428 := (F_QNAME_promotion.keep K427 nin0)
    have Z429 := (Nat.le_trans (Nat.le_trans (Nat.le_trans (Nat.le_trans (Nat.le_trans (Nat.le_trans (Nat.le_trans (Nat.le_trans (Nat.le_trans (Nat.le_trans (Nat.le_trans (Nat.le_trans (Nat.le_trans (Nat.le_trans (Nat.le_trans (Nat.le_trans (Nat.le_trans (Nat.le_trans (Nat.le_trans (Nat.le_trans (Nat.le_trans Z0 E1.1) (Nat.le_of_eq W7.size.symm)) (Nat.le_of_eq W11.size.symm)) (Nat.le_of_eq W16.size.symm)) (Nat.le_of_eq W21.size.symm)) (Nat.le_of_eq W26.size.symm)) (Nat.le_of_eq W31.size.symm)) (Nat.le_of_eq W36.size.symm)) (Nat.le_of_eq W41.size.symm)) (Nat.le_of_eq W46.size.symm)) (Nat.le_of_eq W51.size.symm)) (Nat.le_of_eq W56.size.symm)) (Nat.le_of_eq W61.size.symm)) (Nat.le_of_eq W66.size.symm)) (Nat.le_of_eq W71.size.symm)) (Nat.le_of_eq W76.size.symm)) (Nat.le_of_eq W81.size.symm)) (Nat.le_of_eq W86.size.symm)) (Nat.le_of_eq W91.size.symm)) (Nat.le_of_eq W96.size.symm)) (Nat.le_of_eq W101.size.symm))
    have f430 := (f102.wr W101)
    refine own_cv X101 hx hZ hown (notFace_of_selects (args := #[]) (mvT hZ (hw _ (own_m 48 rfl)))) (hw _ (own_m 45 rfl)) (hw _ (own_m 46 rfl)) (hw _ (own_m 48 rfl)) (hw _ (own_m 47 rfl)) (hw _ (own_m 3 rfl)) (hw _ (own_m 49 rfl)) (by decide) f430 (rm := { frames := 0, cells := 0, slots := 0, locals := 0 }) (rm_pr19 l Z a0 hw [] r_QNAME t jj h101 n0 Z429 f428 H_QNAME) (by decide) (W := 0) (by decide) (by decide) (by decide) e101 (by rw [hml]; rfl) (argsL := [(.ref t)]) (lenOf own_pd0 rfl) (rest := []) rfl rfl (Nat.le_of_eq rfl) (hb hby at_205) ?_
    intro _ T426 L426 X426 hQ426
    obtain ⟨rfl, N426q, e426⟩ := hQ426
    have N426 := Fr.app N101 N426q
    show own_Go p e below _ (T426.setTop (mkF m 208 #[.val (.int x0), .val (.int x1), .val (.ref b1), .val (.int (19 : Int32)), .val (.int jj), .val (.int (0 : Int32))] [(.int (own_p19 jj))]))
    refine own_go (fun _ hr => XS.iload X426.here hx rfl (hb hby at_208) rfl hr) ?_
    show own_Go p e below _ (T426.setTop (mkF m 210 #[.val (.int x0), .val (.int x1), .val (.ref b1), .val (.int (19 : Int32)), .val (.int jj), .val (.int (0 : Int32))] [(.int (0 : Int32)), (.int (own_p19 jj))]))
    have c431 : (own_p19 jj) = (0 : Int32) := by
                        have q := hj20
                        have p0 := c419
                        clear hj20 ht Ft hjb
                        simp only [Int32.lt_iff_toInt_lt, ← Int32.toInt_inj, Int32.reduceToInt] at p0
                        rcases q with q | q | q | q | q | q | q | q | q | q | q | q | q | q | q | q | q | q | q | q <;> subst q <;> first | decide | (exfalso; revert p0; decide)
    refine own_go (fun _ hr => XS.icmpNo X426.here hx rfl (hb hby at_210) rfl (teq c431).2 hr) ?_
    show own_Go p e below _ (T426.setTop (mkF m 213 #[.val (.int x0), .val (.int x1), .val (.ref b1), .val (.int (19 : Int32)), .val (.int jj), .val (.int (0 : Int32))] []))
    refine own_go (fun _ hr => XS.iconst X426.here hx rfl (hb hby at_213) (XS.goto X426.here hx rfl (pc0 := 214) (pc' := 218) rfl (hb hby at_214) (by decide) (by decide) hr)) ?_
    show own_Go p e below _ (T426.setTop (mkF m 218 #[.val (.int x0), .val (.int x1), .val (.ref b1), .val (.int (19 : Int32)), .val (.int jj), .val (.int (0 : Int32))] [(.int (1 : Int32))]))
    exact own_retN X426 hx hlk Bd.returns (t := .boolean) (by simp) (hb hby at_218) (by decide) (by decide) ⟨rfl, N426⟩
set_option maxRecDepth 65536 in
set_option maxHeartbeats 40000000 in
theorem comes_1 {Post : Tables → Env → Array Value → State → Outcome → State → Prop} (hpost : ∀ tb e args s v u, (limb_1_1.after args s (.returned v) u = true ∧ limb_1_2.after args s (.returned v) u = true ∧ True) → FrameEnd s (.returned v) u (Jvm.fieldLocs frame_1_writes args s ++ Jvm.arrayLocs frame_1_arrays args s ++ Jvm.staticLocs frame_1_statics s) 16 128 → Post tb e args s (.returned v) u) :
    ArmFor flags0 classFile x code maxLocals ret World_1 tables_1 room_1 Calls_1 rest_1 Pre_1 Post := by
  intro l hfl _ _ p e ha hc hk s m args below hf hA hF happ hP
  obtain ⟨hcalls, hrest, hpre⟩ := hP
  obtain ⟨-, -, -, hnamed, -, -, -, hat⟩ := (Spec.applies_iff hf).mp happ
  obtain ⟨hg, hn⟩ := and_e (Cond.before_iff.mp (show (Jvm.Cond.and given_1 narrow_1).before args s = true from hpre))
  obtain ⟨g1, g2⟩ := and_e hg
  obtain ⟨g3, g4⟩ := and_e g2
  obtain ⟨w0, w1, rfl⟩ : ∃ w0 w1 : Value, args = #[w0, w1] := by
    have hs : args.size = 2 := by simpa [Cond.value, given_1] using g1
    obtain ⟨L⟩ := args
    match L, hs with
    | [w0, w1], _ => exact ⟨w0, w1, rfl⟩
  have hw := fun d (hd : d ∈ tables_1) => atoms_spec (ws := Jvm.Cond.code x code maxLocals ret :: tables_1) hat d (List.mem_cons_of_mem _ hd)
  have hfit : Fit s := fun {y c} hc i hi => by
    obtain ⟨ha, rfl⟩ := Array.getElem?_eq_some_iff.mp hc
    have q := List.all_eq_true.mp ((Array.all_eq_true_iff_forall_mem.mp hF) _ (Array.getElem_mem ha)) i (List.mem_range.mpr hi)
    simpa [Array.getElem?_eq_getElem hi] using q
  obtain ⟨i0, ei0⟩ := is_v g3
  obtain rfl : w0 = (.int i0) := Option.some.inj ei0
  obtain ⟨i1, ei1⟩ := is_v g4
  obtain rfl : w1 = (.int i1) := Option.some.inj ei1
  obtain ⟨g1001, g1002⟩ := and_e hn
  obtain ⟨g1003, g1004⟩ := and_e g1002
  obtain ⟨g1005, g1006⟩ := and_e g1004
  obtain ⟨g1007, g1008⟩ := and_e g1006
  obtain ⟨g1009, g1010⟩ := and_e g1008
  obtain ⟨g1011, g1012⟩ := and_e g1010
  obtain ⟨g1013, g1014⟩ := and_e g1012
  obtain ⟨g1015, g1016⟩ := and_e g1014
  obtain ⟨g1017, g1018⟩ := and_e g1016
  obtain ⟨g1019, g1020⟩ := and_e g1018
  obtain ⟨g1021, g1022⟩ := and_e g1020
  obtain ⟨g1023, g1024⟩ := and_e g1022
  obtain ⟨g1025, g1026⟩ := and_e g1024
  obtain ⟨g1027, g1028⟩ := and_e g1026
  obtain ⟨g1029, g1030⟩ := and_e g1028
  obtain ⟨g1031, g1032⟩ := and_e g1030
  obtain ⟨g1033, g1034⟩ := and_e g1032
  obtain ⟨g1035, g1036⟩ := and_e g1034
  obtain ⟨g1037, g1038⟩ := and_e g1036
  obtain ⟨g1039, g1040⟩ := and_e g1038
  obtain ⟨g1041, g1042⟩ := and_e g1040
  obtain ⟨g1043, g1044⟩ := and_e g1042
  obtain ⟨g1045, g1046⟩ := and_e g1044
  obtain ⟨g1047, g1048⟩ := and_e g1046
  obtain ⟨g1049, g1050⟩ := and_e g1048
  obtain ⟨g1051, g1052⟩ := and_e g1050
  obtain ⟨g1053, g1054⟩ := and_e g1052
  obtain ⟨g1055, g1056⟩ := and_e g1054
  obtain ⟨g1057, g1058⟩ := and_e g1056
  obtain ⟨g1059, g1060⟩ := and_e g1058
  obtain ⟨g1061, g1062⟩ := and_e g1060
  obtain ⟨g1063, g1064⟩ := and_e g1062
  obtain ⟨g1065, g1066⟩ := and_e g1064
  obtain ⟨g1067, g1068⟩ := and_e g1066
  obtain ⟨g1069, g1070⟩ := and_e g1068
  obtain ⟨g1071, g1072⟩ := and_e g1070
  obtain ⟨g1073, g1074⟩ := and_e g1072
  obtain ⟨g1075, g1076⟩ := and_e g1074
  obtain ⟨g1077, g1078⟩ := and_e g1076
  obtain ⟨g1079, g1080⟩ := and_e g1078
  obtain ⟨g1081, g1082⟩ := and_e g1080
  obtain ⟨g1083, g1084⟩ := and_e g1082
  obtain ⟨g1085, g1086⟩ := and_e g1084
  obtain ⟨g1087, g1088⟩ := and_e g1086
  obtain ⟨g1089, g1090⟩ := and_e g1088
  obtain ⟨g1091, g1092⟩ := and_e g1090
  obtain ⟨g1093, g1094⟩ := and_e g1092
  obtain ⟨g1095, g1096⟩ := and_e g1094
  obtain ⟨g1097, g1098⟩ := and_e g1096
  obtain ⟨g1099, g1100⟩ := and_e g1098
  obtain ⟨g1101, g1102⟩ := and_e g1100
  obtain ⟨g1103, g1104⟩ := and_e g1102
  obtain ⟨g1105, g1106⟩ := and_e g1104
  obtain ⟨g1107, g1108⟩ := and_e g1106
  obtain ⟨g1109, g1110⟩ := and_e g1108
  obtain ⟨g1111, g1112⟩ := and_e g1110
  obtain ⟨g1113, g1114⟩ := and_e g1112
  obtain ⟨g1115, g1116⟩ := and_e g1114
  obtain ⟨g1117, g1118⟩ := and_e g1116
  obtain ⟨r_DOUBLE, er_DOUBLE⟩ := exa_v g1001
  have S_DOUBLE := Sta.start er_DOUBLE (Or.inr ⟨(hw _ (own_m 3 rfl)), (hw _ (own_m 4 rfl))⟩)
  have E_DOUBLE := Exa.start er_DOUBLE g1001
  obtain ⟨r_FLOAT, er_FLOAT⟩ := exa_v g1003
  have S_FLOAT := Sta.start er_FLOAT (Or.inr ⟨(hw _ (own_m 3 rfl)), (hw _ (own_m 7 rfl))⟩)
  have E_FLOAT := Exa.start er_FLOAT g1003
  obtain ⟨r_DECIMAL, er_DECIMAL⟩ := exa_v g1005
  have S_DECIMAL := Sta.start er_DECIMAL (Or.inr ⟨(hw _ (own_m 3 rfl)), (hw _ (own_m 9 rfl))⟩)
  have E_DECIMAL := Exa.start er_DECIMAL g1005
  obtain ⟨r_INTEGER, er_INTEGER⟩ := exa_v g1007
  have S_INTEGER := Sta.start er_INTEGER (Or.inr ⟨(hw _ (own_m 3 rfl)), (hw _ (own_m 11 rfl))⟩)
  have E_INTEGER := Exa.start er_INTEGER g1007
  obtain ⟨r_STRING, er_STRING⟩ := exa_v g1009
  have S_STRING := Sta.start er_STRING (Or.inr ⟨(hw _ (own_m 3 rfl)), (hw _ (own_m 13 rfl))⟩)
  have E_STRING := Exa.start er_STRING g1009
  obtain ⟨r_ANY_URI, er_ANY_URI⟩ := exa_v g1011
  have S_ANY_URI := Sta.start er_ANY_URI (Or.inr ⟨(hw _ (own_m 3 rfl)), (hw _ (own_m 15 rfl))⟩)
  have E_ANY_URI := Exa.start er_ANY_URI g1011
  obtain ⟨r_UNTYPED_ATOMIC, er_UNTYPED_ATOMIC⟩ := exa_v g1013
  have S_UNTYPED_ATOMIC := Sta.start er_UNTYPED_ATOMIC (Or.inr ⟨(hw _ (own_m 3 rfl)), (hw _ (own_m 17 rfl))⟩)
  have E_UNTYPED_ATOMIC := Exa.start er_UNTYPED_ATOMIC g1013
  obtain ⟨r_BOOLEAN, er_BOOLEAN⟩ := exa_v g1015
  have S_BOOLEAN := Sta.start er_BOOLEAN (Or.inr ⟨(hw _ (own_m 3 rfl)), (hw _ (own_m 19 rfl))⟩)
  have E_BOOLEAN := Exa.start er_BOOLEAN g1015
  obtain ⟨r_DATE_TIME, er_DATE_TIME⟩ := exa_v g1017
  have S_DATE_TIME := Sta.start er_DATE_TIME (Or.inr ⟨(hw _ (own_m 3 rfl)), (hw _ (own_m 21 rfl))⟩)
  have E_DATE_TIME := Exa.start er_DATE_TIME g1017
  obtain ⟨r_DATE, er_DATE⟩ := exa_v g1019
  have S_DATE := Sta.start er_DATE (Or.inr ⟨(hw _ (own_m 3 rfl)), (hw _ (own_m 23 rfl))⟩)
  have E_DATE := Exa.start er_DATE g1019
  obtain ⟨r_TIME, er_TIME⟩ := exa_v g1021
  have S_TIME := Sta.start er_TIME (Or.inr ⟨(hw _ (own_m 3 rfl)), (hw _ (own_m 25 rfl))⟩)
  have E_TIME := Exa.start er_TIME g1021
  obtain ⟨r_YEAR_MONTH_DURATION, er_YEAR_MONTH_DURATION⟩ := exa_v g1023
  have S_YEAR_MONTH_DURATION := Sta.start er_YEAR_MONTH_DURATION (Or.inr ⟨(hw _ (own_m 3 rfl)), (hw _ (own_m 27 rfl))⟩)
  have E_YEAR_MONTH_DURATION := Exa.start er_YEAR_MONTH_DURATION g1023
  obtain ⟨r_DAY_TIME_DURATION, er_DAY_TIME_DURATION⟩ := exa_v g1025
  have S_DAY_TIME_DURATION := Sta.start er_DAY_TIME_DURATION (Or.inr ⟨(hw _ (own_m 3 rfl)), (hw _ (own_m 29 rfl))⟩)
  have E_DAY_TIME_DURATION := Exa.start er_DAY_TIME_DURATION g1025
  obtain ⟨r_DURATION, er_DURATION⟩ := exa_v g1027
  have S_DURATION := Sta.start er_DURATION (Or.inr ⟨(hw _ (own_m 3 rfl)), (hw _ (own_m 31 rfl))⟩)
  have E_DURATION := Exa.start er_DURATION g1027
  obtain ⟨r_G_YEAR_MONTH, er_G_YEAR_MONTH⟩ := exa_v g1029
  have S_G_YEAR_MONTH := Sta.start er_G_YEAR_MONTH (Or.inr ⟨(hw _ (own_m 3 rfl)), (hw _ (own_m 33 rfl))⟩)
  have E_G_YEAR_MONTH := Exa.start er_G_YEAR_MONTH g1029
  obtain ⟨r_G_YEAR, er_G_YEAR⟩ := exa_v g1031
  have S_G_YEAR := Sta.start er_G_YEAR (Or.inr ⟨(hw _ (own_m 3 rfl)), (hw _ (own_m 35 rfl))⟩)
  have E_G_YEAR := Exa.start er_G_YEAR g1031
  obtain ⟨r_G_MONTH_DAY, er_G_MONTH_DAY⟩ := exa_v g1033
  have S_G_MONTH_DAY := Sta.start er_G_MONTH_DAY (Or.inr ⟨(hw _ (own_m 3 rfl)), (hw _ (own_m 37 rfl))⟩)
  have E_G_MONTH_DAY := Exa.start er_G_MONTH_DAY g1033
  obtain ⟨r_G_DAY, er_G_DAY⟩ := exa_v g1035
  have S_G_DAY := Sta.start er_G_DAY (Or.inr ⟨(hw _ (own_m 3 rfl)), (hw _ (own_m 39 rfl))⟩)
  have E_G_DAY := Exa.start er_G_DAY g1035
  obtain ⟨r_G_MONTH, er_G_MONTH⟩ := exa_v g1037
  have S_G_MONTH := Sta.start er_G_MONTH (Or.inr ⟨(hw _ (own_m 3 rfl)), (hw _ (own_m 41 rfl))⟩)
  have E_G_MONTH := Exa.start er_G_MONTH g1037
  obtain ⟨r_QNAME, er_QNAME⟩ := exa_v g1039
  have S_QNAME := Sta.start er_QNAME (Or.inr ⟨(hw _ (own_m 3 rfl)), (hw _ (own_m 43 rfl))⟩)
  have E_QNAME := Exa.start er_QNAME g1039
  have F_DOUBLE_ordinal := Fld.start ((fld_at er_DOUBLE).symm.trans (own_eq_int g1041))
  have F_INTEGER_ordinal := Fld.start ((fld_at er_INTEGER).symm.trans (own_eq_int g1043))
  have F_DOUBLE_promotion := Fld.start ((fld_at er_DOUBLE).symm.trans (null_v g1045))
  have F_G_YEAR_MONTH_ordinal := Fld.start ((fld_at er_G_YEAR_MONTH).symm.trans (own_eq_int g1047))
  have F_FLOAT_ordinal := Fld.start ((fld_at er_FLOAT).symm.trans (own_eq_int g1049))
  have F_G_YEAR_MONTH_promotion := Fld.start ((fld_at er_G_YEAR_MONTH).symm.trans (null_v g1051))
  have F_DATE_TIME_ordinal := Fld.start ((fld_at er_DATE_TIME).symm.trans (own_eq_int g1053))
  have F_YEAR_MONTH_DURATION_ordinal := Fld.start ((fld_at er_YEAR_MONTH_DURATION).symm.trans (own_eq_int g1055))
  have F_DATE_TIME_promotion := Fld.start ((fld_at er_DATE_TIME).symm.trans (null_v g1057))
  have F_G_MONTH_DAY_ordinal := Fld.start ((fld_at er_G_MONTH_DAY).symm.trans (own_eq_int g1059))
  have F_G_MONTH_DAY_promotion := Fld.start ((fld_at er_G_MONTH_DAY).symm.trans (null_v g1061))
  have F_DATE_ordinal := Fld.start ((fld_at er_DATE).symm.trans (own_eq_int g1063))
  have F_DURATION_ordinal := Fld.start ((fld_at er_DURATION).symm.trans (own_eq_int g1065))
  have F_DATE_promotion := Fld.start ((fld_at er_DATE).symm.trans (null_v g1067))
  have F_UNTYPED_ATOMIC_ordinal := Fld.start ((fld_at er_UNTYPED_ATOMIC).symm.trans (own_eq_int g1069))
  have F_UNTYPED_ATOMIC_promotion := Fld.start ((fld_at er_UNTYPED_ATOMIC).symm.trans (own_eq_ref er_STRING g1071))
  have F_STRING_ordinal := Fld.start ((fld_at er_STRING).symm.trans (own_eq_int g1073))
  have F_STRING_promotion := Fld.start ((fld_at er_STRING).symm.trans (null_v g1075))
  have F_BOOLEAN_ordinal := Fld.start ((fld_at er_BOOLEAN).symm.trans (own_eq_int g1077))
  have F_DAY_TIME_DURATION_ordinal := Fld.start ((fld_at er_DAY_TIME_DURATION).symm.trans (own_eq_int g1079))
  have F_ANY_URI_ordinal := Fld.start ((fld_at er_ANY_URI).symm.trans (own_eq_int g1081))
  have F_DAY_TIME_DURATION_promotion := Fld.start ((fld_at er_DAY_TIME_DURATION).symm.trans (null_v g1083))
  have F_QNAME_ordinal := Fld.start ((fld_at er_QNAME).symm.trans (own_eq_int g1085))
  have F_TIME_ordinal := Fld.start ((fld_at er_TIME).symm.trans (own_eq_int g1087))
  have F_QNAME_promotion := Fld.start ((fld_at er_QNAME).symm.trans (null_v g1089))
  have F_INTEGER_promotion := Fld.start ((fld_at er_INTEGER).symm.trans (own_eq_ref er_DECIMAL g1091))
  have F_DECIMAL_ordinal := Fld.start ((fld_at er_DECIMAL).symm.trans (own_eq_int g1093))
  have F_DECIMAL_promotion := Fld.start ((fld_at er_DECIMAL).symm.trans (own_eq_ref er_FLOAT g1095))
  have F_FLOAT_promotion := Fld.start ((fld_at er_FLOAT).symm.trans (own_eq_ref er_DOUBLE g1097))
  have F_ANY_URI_promotion := Fld.start ((fld_at er_ANY_URI).symm.trans (own_eq_ref er_STRING g1099))
  have F_G_YEAR_ordinal := Fld.start ((fld_at er_G_YEAR).symm.trans (own_eq_int g1101))
  have F_TIME_promotion := Fld.start ((fld_at er_TIME).symm.trans (null_v g1103))
  have F_YEAR_MONTH_DURATION_promotion := Fld.start ((fld_at er_YEAR_MONTH_DURATION).symm.trans (null_v g1105))
  have F_BOOLEAN_promotion := Fld.start ((fld_at er_BOOLEAN).symm.trans (null_v g1107))
  have F_G_DAY_ordinal := Fld.start ((fld_at er_G_DAY).symm.trans (own_eq_int g1109))
  have F_G_DAY_promotion := Fld.start ((fld_at er_G_DAY).symm.trans (null_v g1111))
  have F_G_MONTH_ordinal := Fld.start ((fld_at er_G_MONTH).symm.trans (own_eq_int g1113))
  have F_G_MONTH_promotion := Fld.start ((fld_at er_G_MONTH).symm.trans (null_v g1115))
  have F_G_YEAR_promotion := Fld.start ((fld_at er_G_YEAR).symm.trans (null_v g1117))
  have F_DURATION_promotion := Fld.start ((fld_at er_DURATION).symm.trans (null_v g1118))
  obtain ⟨n, o, h1, h2, h3, _, L, rfl, ⟨rfl, N⟩, hq⟩ := rm_law l s _ hw tables_1 i0 i1 r_DOUBLE r_FLOAT r_DECIMAL r_INTEGER r_STRING r_ANY_URI r_UNTYPED_ATOMIC r_BOOLEAN r_DATE_TIME r_DATE r_TIME r_YEAR_MONTH_DURATION r_DAY_TIME_DURATION r_DURATION r_G_YEAR_MONTH r_G_YEAR r_G_MONTH_DAY r_G_DAY r_G_MONTH r_QNAME s.heap s.heap.size (Nat.le_refl _) S_DOUBLE E_DOUBLE S_FLOAT E_FLOAT S_DECIMAL E_DECIMAL S_INTEGER E_INTEGER S_STRING E_STRING S_ANY_URI E_ANY_URI S_UNTYPED_ATOMIC E_UNTYPED_ATOMIC S_BOOLEAN E_BOOLEAN S_DATE_TIME E_DATE_TIME S_DATE E_DATE S_TIME E_TIME S_YEAR_MONTH_DURATION E_YEAR_MONTH_DURATION S_DAY_TIME_DURATION E_DAY_TIME_DURATION S_DURATION E_DURATION S_G_YEAR_MONTH E_G_YEAR_MONTH S_G_YEAR E_G_YEAR S_G_MONTH_DAY E_G_MONTH_DAY S_G_DAY E_G_DAY S_G_MONTH E_G_MONTH S_QNAME E_QNAME F_DOUBLE_ordinal F_INTEGER_ordinal F_DOUBLE_promotion F_G_YEAR_MONTH_ordinal F_FLOAT_ordinal F_G_YEAR_MONTH_promotion F_DATE_TIME_ordinal F_YEAR_MONTH_DURATION_ordinal F_DATE_TIME_promotion F_G_MONTH_DAY_ordinal F_G_MONTH_DAY_promotion F_DATE_ordinal F_DURATION_ordinal F_DATE_promotion F_UNTYPED_ATOMIC_ordinal F_UNTYPED_ATOMIC_promotion F_STRING_ordinal F_STRING_promotion F_BOOLEAN_ordinal F_DAY_TIME_DURATION_ordinal F_ANY_URI_ordinal F_DAY_TIME_DURATION_promotion F_QNAME_ordinal F_TIME_ordinal F_QNAME_promotion F_INTEGER_promotion F_DECIMAL_ordinal F_DECIMAL_promotion F_FLOAT_promotion F_ANY_URI_promotion F_G_YEAR_ordinal F_TIME_promotion F_YEAR_MONTH_DURATION_promotion F_BOOLEAN_promotion F_G_DAY_ordinal F_G_DAY_promotion F_G_MONTH_ordinal F_G_MONTH_promotion F_G_YEAR_promotion F_DURATION_promotion p e ha hc hk s m _ below hf ((Spec.applies_iff_loose hf).mp happ).1 ⟨rfl, State.Warmed39.refl s, rfl⟩ trivial
  refine ⟨n, _, h1, h2, h3, hpost _ _ _ _ _ _ ⟨Cond.after_iff.mpr rfl, Cond.after_iff.mpr (eq_i res_at (Term.int_eval (1)) rfl), trivial⟩ ⟨hq.1, hq.2.1, (hq.2.2.sift fun y hy => Or.inr (N y hy)).mono (by decide) (by decide)⟩⟩
theorem main_1_1 : Claimed_1_1 := comes_1 fun _ _ _ _ _ _ h hF => ⟨h.1, hF⟩
theorem main_1_2 : Claimed_1_2 := comes_1 fun _ _ _ _ _ _ h hF => ⟨h.2.1, hF⟩
end Jvm.Pilot.@@N@@
namespace Jvm.Pilot.@@N@@
open Jvm Jvm.ClassFile Sem Op Lib Jvm.Free Jvm.Stand Jvm.Pilot.@@N@@.Jvm.D
/-! MADE BY PROGRAM (witnessworld.py) out of the Statement's table words and the real class files: 13 classes; the members and pool entries that the words name. The judged class is class 1, her method 1. -/
namespace start1
open Jvm.ClassFile
def u (s : String) : CpInfo := .utf8 (stringToUtf16 s)
/-- a pool by its gaps: so many unusable entries, then the entry; so many at the end -/
def gap : Nat → List CpInfo → List CpInfo
  | 0, r => r
  | n + 1, r => .unusable :: gap n r
def poolList (es : List (Nat × CpInfo)) (last : Nat) : List CpInfo := es.foldr (fun e r => gap e.1 (e.2 :: r)) (gap last [])
def pool (es : List (Nat × CpInfo)) (last : Nat) : Array CpInfo := ⟨poolList es last⟩
def fileOf (pool : Array CpInfo) (this : Nat) (attrs : Array Attribute := #[]) (ms : Array MethodInfo := #[]) (fl : Nat := 33) (sup : Nat := 0) (ifs : Array Nat := #[]) (fds : Array FieldInfo := #[]) : ClassFile where
  minorVersion := 0
  majorVersion := 65
  constantPool := pool
  accessFlags := fl
  thisClass := this
  superClass := sup
  interfaces := ifs
  fields := fds
  methods := ms
  attributes := attrs
def plain (name : String) (sup : Option ClassId) : Class where
  name := name
  kind := .ordinary
  loader := none
  accessFlags := 33
  super := sup
  interfaces := #[]
  cf := none
  fields := #[]
  methods := #[]
  instanceTypes := #[]
  staticTypes := #[]
  resolved := #[]
  callSites := []
  init := .initialized
  statics := none
  mirror := none

def pool0 : Array CpInfo := pool [(5, u "<init>"), (0, u "()V"), (1, .class_ 10), (1, u "java/lang/Object")] 113

def k0m0 : Method := { name := "<init>", desc := "()V", sig := { parameters := [], returnType := none }, accessFlags := 1, code := none }
/-- java/lang/Object -/
def k0 : Class := { plain "java/lang/Object" none with
  accessFlags := 33
  interfaces := #[]
  cf := some (fileOf pool0 8 #[] #[{ accessFlags := 1, nameIndex := 5, descriptorIndex := 6, attributes := #[] }] 33 0 #[] #[])
  fields := #[]
  methods := #[k0m0]
  instanceTypes := #[]
  staticTypes := #[]
  resolved := Array.replicate 124 none
  statics := none }

def pool1 : Array CpInfo := pool [(2, .class_ 4), (1, u "java/lang/Object"), (0, u "<init>"), (0, u "()V"), (0, .class_ 8), (0, u "com/example/libsortkey/libsortkey/values/AtomicType"), (0, .fieldref 7 10), (0, .nameAndType 11 12), (0, u "DOUBLE"), (0, u "Lcom/example/libsortkey/libsortkey/values/AtomicType;"), (0, .fieldref 7 14), (0, .nameAndType 15 12), (0, u "FLOAT"), (0, .fieldref 7 17), (0, .nameAndType 18 12), (0, u "DECIMAL"), (0, .fieldref 7 20), (0, .nameAndType 21 12), (0, u "INTEGER"), (0, .fieldref 7 23), (0, .nameAndType 24 12), (0, u "STRING"), (0, .fieldref 7 26), (0, .nameAndType 27 12), (0, u "ANY_URI"), (0, .fieldref 7 29), (0, .nameAndType 30 12), (0, u "UNTYPED_ATOMIC"), (0, .fieldref 7 32), (0, .nameAndType 33 12), (0, u "BOOLEAN"), (0, .fieldref 7 35), (0, .nameAndType 36 12), (0, u "DATE_TIME"), (0, .fieldref 7 38), (0, .nameAndType 39 12), (0, u "DATE"), (0, .fieldref 7 41), (0, .nameAndType 42 12), (0, u "TIME"), (0, .fieldref 7 44), (0, .nameAndType 45 12), (0, u "YEAR_MONTH_DURATION"), (0, .fieldref 7 47), (0, .nameAndType 48 12), (0, u "DAY_TIME_DURATION"), (0, .fieldref 7 50), (0, .nameAndType 51 12), (0, u "DURATION"), (0, .fieldref 7 53), (0, .nameAndType 54 12), (0, u "G_YEAR_MONTH"), (0, .fieldref 7 56), (0, .nameAndType 57 12), (0, u "G_YEAR"), (0, .fieldref 7 59), (0, .nameAndType 60 12), (0, u "G_MONTH_DAY"), (0, .fieldref 7 62), (0, .nameAndType 63 12), (0, u "G_DAY"), (0, .fieldref 7 65), (0, .nameAndType 66 12), (0, u "G_MONTH"), (0, .fieldref 7 68), (0, .nameAndType 69 12), (0, u "QNAME"), (0, .integer 2147483647), (0, .methodref 7 72), (0, .nameAndType 73 74), (0, u "promotesTo"), (0, u "(Lcom/example/libsortkey/libsortkey/values/AtomicType;)Z"), (0, .class_ 76), (0, u "com/example/libsortkey/libsortkey/values/AtomicTypePromotesToPinLaw"), (2, u "law"), (0, u "(II)Z")] 5

def k1m0 : Method := { name := "<init>", desc := "()V", sig := { parameters := [], returnType := none }, accessFlags := 1, code := none }
def k1c1 : Code := { maxStack := 4, maxLocals := 6, code := code, exceptionTable := #[], attributes := #[] }
def k1m1 : Method := { name := "law", desc := "(II)Z", sig := { parameters := [.int, .int], returnType := some .boolean }, accessFlags := 9, code := some k1c1 }
/-- com/example/libsortkey/libsortkey/values/AtomicTypePromotesToPinLaw -/
def k1 : Class := { plain "com/example/libsortkey/libsortkey/values/AtomicTypePromotesToPinLaw" (some 0) with
  accessFlags := 49
  interfaces := #[]
  cf := some (fileOf pool1 75 #[] #[{ accessFlags := 1, nameIndex := 5, descriptorIndex := 6, attributes := #[] }, { accessFlags := 9, nameIndex := 79, descriptorIndex := 80, attributes := #[] }] 49 2 #[] #[])
  fields := #[]
  methods := #[k1m0, k1m1]
  instanceTypes := #[]
  staticTypes := #[]
  resolved := Array.replicate 86 none
  statics := none }

def pool2 : Array CpInfo := pool [(1, .class_ 2), (0, u "java/lang/constant/Constable"), (0, .class_ 4), (0, u "java/lang/Object")] 6

/-- java/lang/constant/Constable -/
def k2 : Class := { plain "java/lang/constant/Constable" (some 0) with
  accessFlags := 1537
  interfaces := #[]
  cf := some (fileOf pool2 1 #[] #[] 1537 3 #[] #[])
  fields := #[]
  methods := #[]
  instanceTypes := #[]
  staticTypes := #[]
  resolved := Array.replicate 11 none
  statics := none }

def pool3 : Array CpInfo := pool [(1, .class_ 2), (0, u "java/lang/Comparable"), (0, .class_ 4), (0, u "java/lang/Object")] 7

/-- java/lang/Comparable -/
def k3 : Class := { plain "java/lang/Comparable" (some 0) with
  accessFlags := 1537
  interfaces := #[]
  cf := some (fileOf pool3 1 #[] #[] 1537 3 #[] #[])
  fields := #[]
  methods := #[]
  instanceTypes := #[]
  staticTypes := #[]
  resolved := Array.replicate 12 none
  statics := none }

def pool4 : Array CpInfo := pool [(1, .class_ 2), (0, u "java/io/Serializable"), (0, .class_ 4), (0, u "java/lang/Object")] 2

/-- java/io/Serializable -/
def k4 : Class := { plain "java/io/Serializable" (some 0) with
  accessFlags := 1537
  interfaces := #[]
  cf := some (fileOf pool4 1 #[] #[] 1537 3 #[] #[])
  fields := #[]
  methods := #[]
  instanceTypes := #[]
  staticTypes := #[]
  resolved := Array.replicate 7 none
  statics := none }

def pool5 : Array CpInfo := pool [(2, .class_ 4), (1, u "java/lang/Enum"), (0, u "name"), (0, u "Ljava/lang/String;"), (2, u "ordinal"), (0, u "I"), (1, .class_ 14), (1, u "java/lang/Object"), (4, u "hash"), (86, .class_ 108), (1, u "java/lang/Enum$EnumDesc"), (2, .class_ 112), (0, u "java/lang/constant/Constable"), (0, .class_ 114), (0, u "java/lang/Comparable"), (0, .class_ 116), (0, u "java/io/Serializable")] 87

/-- java/lang/Enum -/
def k5 : Class := { plain "java/lang/Enum" (some 0) with
  accessFlags := 1057
  interfaces := #[2, 3, 4]
  cf := some (fileOf pool5 2 #[.nestMembers #[106]] #[] 1057 12 #[111, 113, 115] #[{ accessFlags := 18, nameIndex := 5, descriptorIndex := 6, attributes := #[] }, { accessFlags := 18, nameIndex := 9, descriptorIndex := 10, attributes := #[] }, { accessFlags := 2, nameIndex := 19, descriptorIndex := 10, attributes := #[] }])
  fields := #[{ name := "name", type := (.object "java/lang/String"), accessFlags := 18, slot := 0, constantValue := 0 }, { name := "ordinal", type := .int, accessFlags := 18, slot := 1, constantValue := 0 }, { name := "hash", type := .int, accessFlags := 2, slot := 2, constantValue := 0 }]
  methods := #[]
  instanceTypes := #[(.object "java/lang/String"), .int, .int]
  staticTypes := #[]
  resolved := Array.replicate 204 none
  statics := none }

def pool6 : Array CpInfo := pool [(1, .class_ 2), (0, u "com/example/libsortkey/libsortkey/values/AtomicType"), (2, u "DOUBLE"), (0, u "Lcom/example/libsortkey/libsortkey/values/AtomicType;"), (2, u "FLOAT"), (2, u "DECIMAL"), (2, u "INTEGER"), (2, u "STRING"), (2, u "ANY_URI"), (2, u "UNTYPED_ATOMIC"), (2, u "BOOLEAN"), (2, u "DATE_TIME"), (2, u "DATE"), (2, u "TIME"), (2, u "YEAR_MONTH_DURATION"), (2, u "DAY_TIME_DURATION"), (2, u "DURATION"), (2, u "G_YEAR_MONTH"), (2, u "G_YEAR"), (2, u "G_MONTH_DAY"), (2, u "G_DAY"), (2, u "G_MONTH"), (2, u "QNAME"), (2, u "$VALUES"), (0, u "[Lcom/example/libsortkey/libsortkey/values/AtomicType;"), (6, .class_ 76), (1, u "java/lang/Enum"), (11, u "qualifiedName"), (0, u "Ljava/lang/String;"), (0, .fieldref 1 91), (0, .nameAndType 92 6), (0, u "promotion"), (2, u "ordered"), (0, u "Z"), (2, u "constructor"), (0, u "Ljava/util/function/Function;"), (2, u "BY_NAME"), (0, u "Ljava/util/Map;"), (35, u "promotesTo"), (0, u "(Lcom/example/libsortkey/libsortkey/values/AtomicType;)Z")] 295

def k6c0 : Code := { maxStack := 2, maxLocals := 3, code := prog_17_method_10_code, exceptionTable := #[], attributes := #[] }
def k6m0 : Method := { name := "promotesTo", desc := "(Lcom/example/libsortkey/libsortkey/values/AtomicType;)Z", sig := { parameters := [(.object "com/example/libsortkey/libsortkey/values/AtomicType")], returnType := some .boolean }, accessFlags := 0, code := some k6c0 }
/-- com/example/libsortkey/libsortkey/values/AtomicType -/
def k6 : Class := { plain "com/example/libsortkey/libsortkey/values/AtomicType" (some 5) with
  accessFlags := 16433
  interfaces := #[]
  cf := some (fileOf pool6 1 #[] #[{ accessFlags := 0, nameIndex := 140, descriptorIndex := 141, attributes := #[] }] 16433 74 #[] #[{ accessFlags := 16409, nameIndex := 5, descriptorIndex := 6, attributes := #[] }, { accessFlags := 16409, nameIndex := 9, descriptorIndex := 6, attributes := #[] }, { accessFlags := 16409, nameIndex := 12, descriptorIndex := 6, attributes := #[] }, { accessFlags := 16409, nameIndex := 15, descriptorIndex := 6, attributes := #[] }, { accessFlags := 16409, nameIndex := 18, descriptorIndex := 6, attributes := #[] }, { accessFlags := 16409, nameIndex := 21, descriptorIndex := 6, attributes := #[] }, { accessFlags := 16409, nameIndex := 24, descriptorIndex := 6, attributes := #[] }, { accessFlags := 16409, nameIndex := 27, descriptorIndex := 6, attributes := #[] }, { accessFlags := 16409, nameIndex := 30, descriptorIndex := 6, attributes := #[] }, { accessFlags := 16409, nameIndex := 33, descriptorIndex := 6, attributes := #[] }, { accessFlags := 16409, nameIndex := 36, descriptorIndex := 6, attributes := #[] }, { accessFlags := 16409, nameIndex := 39, descriptorIndex := 6, attributes := #[] }, { accessFlags := 16409, nameIndex := 42, descriptorIndex := 6, attributes := #[] }, { accessFlags := 16409, nameIndex := 45, descriptorIndex := 6, attributes := #[] }, { accessFlags := 16409, nameIndex := 48, descriptorIndex := 6, attributes := #[] }, { accessFlags := 16409, nameIndex := 51, descriptorIndex := 6, attributes := #[] }, { accessFlags := 16409, nameIndex := 54, descriptorIndex := 6, attributes := #[] }, { accessFlags := 16409, nameIndex := 57, descriptorIndex := 6, attributes := #[] }, { accessFlags := 16409, nameIndex := 60, descriptorIndex := 6, attributes := #[] }, { accessFlags := 16409, nameIndex := 63, descriptorIndex := 6, attributes := #[] }, { accessFlags := 26, nameIndex := 103, descriptorIndex := 104, attributes := #[] }, { accessFlags := 18, nameIndex := 88, descriptorIndex := 89, attributes := #[] }, { accessFlags := 18, nameIndex := 92, descriptorIndex := 6, attributes := #[] }, { accessFlags := 18, nameIndex := 95, descriptorIndex := 96, attributes := #[] }, { accessFlags := 18, nameIndex := 99, descriptorIndex := 100, attributes := #[] }, { accessFlags := 4122, nameIndex := 66, descriptorIndex := 67, attributes := #[] }])
  fields := #[{ name := "DOUBLE", type := (.object "com/example/libsortkey/libsortkey/values/AtomicType"), accessFlags := 16409, slot := 0, constantValue := 0 }, { name := "FLOAT", type := (.object "com/example/libsortkey/libsortkey/values/AtomicType"), accessFlags := 16409, slot := 1, constantValue := 0 }, { name := "DECIMAL", type := (.object "com/example/libsortkey/libsortkey/values/AtomicType"), accessFlags := 16409, slot := 2, constantValue := 0 }, { name := "INTEGER", type := (.object "com/example/libsortkey/libsortkey/values/AtomicType"), accessFlags := 16409, slot := 3, constantValue := 0 }, { name := "STRING", type := (.object "com/example/libsortkey/libsortkey/values/AtomicType"), accessFlags := 16409, slot := 4, constantValue := 0 }, { name := "ANY_URI", type := (.object "com/example/libsortkey/libsortkey/values/AtomicType"), accessFlags := 16409, slot := 5, constantValue := 0 }, { name := "UNTYPED_ATOMIC", type := (.object "com/example/libsortkey/libsortkey/values/AtomicType"), accessFlags := 16409, slot := 6, constantValue := 0 }, { name := "BOOLEAN", type := (.object "com/example/libsortkey/libsortkey/values/AtomicType"), accessFlags := 16409, slot := 7, constantValue := 0 }, { name := "DATE_TIME", type := (.object "com/example/libsortkey/libsortkey/values/AtomicType"), accessFlags := 16409, slot := 8, constantValue := 0 }, { name := "DATE", type := (.object "com/example/libsortkey/libsortkey/values/AtomicType"), accessFlags := 16409, slot := 9, constantValue := 0 }, { name := "TIME", type := (.object "com/example/libsortkey/libsortkey/values/AtomicType"), accessFlags := 16409, slot := 10, constantValue := 0 }, { name := "YEAR_MONTH_DURATION", type := (.object "com/example/libsortkey/libsortkey/values/AtomicType"), accessFlags := 16409, slot := 11, constantValue := 0 }, { name := "DAY_TIME_DURATION", type := (.object "com/example/libsortkey/libsortkey/values/AtomicType"), accessFlags := 16409, slot := 12, constantValue := 0 }, { name := "DURATION", type := (.object "com/example/libsortkey/libsortkey/values/AtomicType"), accessFlags := 16409, slot := 13, constantValue := 0 }, { name := "G_YEAR_MONTH", type := (.object "com/example/libsortkey/libsortkey/values/AtomicType"), accessFlags := 16409, slot := 14, constantValue := 0 }, { name := "G_YEAR", type := (.object "com/example/libsortkey/libsortkey/values/AtomicType"), accessFlags := 16409, slot := 15, constantValue := 0 }, { name := "G_MONTH_DAY", type := (.object "com/example/libsortkey/libsortkey/values/AtomicType"), accessFlags := 16409, slot := 16, constantValue := 0 }, { name := "G_DAY", type := (.object "com/example/libsortkey/libsortkey/values/AtomicType"), accessFlags := 16409, slot := 17, constantValue := 0 }, { name := "G_MONTH", type := (.object "com/example/libsortkey/libsortkey/values/AtomicType"), accessFlags := 16409, slot := 18, constantValue := 0 }, { name := "QNAME", type := (.object "com/example/libsortkey/libsortkey/values/AtomicType"), accessFlags := 16409, slot := 19, constantValue := 0 }, { name := "BY_NAME", type := (.object "java/util/Map"), accessFlags := 26, slot := 20, constantValue := 0 }, { name := "qualifiedName", type := (.object "java/lang/String"), accessFlags := 18, slot := 3, constantValue := 0 }, { name := "promotion", type := (.object "com/example/libsortkey/libsortkey/values/AtomicType"), accessFlags := 18, slot := 4, constantValue := 0 }, { name := "ordered", type := .boolean, accessFlags := 18, slot := 5, constantValue := 0 }, { name := "constructor", type := (.object "java/util/function/Function"), accessFlags := 18, slot := 6, constantValue := 0 }, { name := "$VALUES", type := (.array (.object "com/example/libsortkey/libsortkey/values/AtomicType")), accessFlags := 4122, slot := 21, constantValue := 0 }]
  methods := #[k6m0]
  instanceTypes := #[(.object "java/lang/String"), .int, .int, (.object "java/lang/String"), (.object "com/example/libsortkey/libsortkey/values/AtomicType"), .boolean, (.object "java/util/function/Function")]
  staticTypes := #[(.object "com/example/libsortkey/libsortkey/values/AtomicType"), (.object "com/example/libsortkey/libsortkey/values/AtomicType"), (.object "com/example/libsortkey/libsortkey/values/AtomicType"), (.object "com/example/libsortkey/libsortkey/values/AtomicType"), (.object "com/example/libsortkey/libsortkey/values/AtomicType"), (.object "com/example/libsortkey/libsortkey/values/AtomicType"), (.object "com/example/libsortkey/libsortkey/values/AtomicType"), (.object "com/example/libsortkey/libsortkey/values/AtomicType"), (.object "com/example/libsortkey/libsortkey/values/AtomicType"), (.object "com/example/libsortkey/libsortkey/values/AtomicType"), (.object "com/example/libsortkey/libsortkey/values/AtomicType"), (.object "com/example/libsortkey/libsortkey/values/AtomicType"), (.object "com/example/libsortkey/libsortkey/values/AtomicType"), (.object "com/example/libsortkey/libsortkey/values/AtomicType"), (.object "com/example/libsortkey/libsortkey/values/AtomicType"), (.object "com/example/libsortkey/libsortkey/values/AtomicType"), (.object "com/example/libsortkey/libsortkey/values/AtomicType"), (.object "com/example/libsortkey/libsortkey/values/AtomicType"), (.object "com/example/libsortkey/libsortkey/values/AtomicType"), (.object "com/example/libsortkey/libsortkey/values/AtomicType"), (.object "java/util/Map"), (.array (.object "com/example/libsortkey/libsortkey/values/AtomicType"))]
  resolved := Array.replicate 437 none
  statics := some 0 }

def pool7 : Array CpInfo := pool [(1, u "java/lang/Cloneable"), (0, .class_ 1), (0, u "java/lang/Object"), (0, .class_ 3)] 3

/-- java/lang/Cloneable -/
def k7 : Class := { plain "java/lang/Cloneable" (some 0) with
  accessFlags := 1537
  interfaces := #[]
  cf := some (fileOf pool7 2 #[] #[] 1537 4 #[] #[])
  fields := #[]
  methods := #[]
  instanceTypes := #[]
  staticTypes := #[]
  resolved := Array.replicate 8 none
  statics := none }

/-- the primitive byte -/
def k8 : Class := { plain "byte" none with kind := .primitive 'B', accessFlags := 0x411 }
/-- [B -/
def k9 : Class := { plain "[B" (some 0) with kind := .array 8 .byte, interfaces := #[7, 4], accessFlags := 1041 }

/-- the primitive int -/
def k10 : Class := { plain "int" none with kind := .primitive 'I', accessFlags := 0x411 }
/-- [I -/
def k11 : Class := { plain "[I" (some 0) with kind := .array 10 .int, interfaces := #[7, 4], accessFlags := 1041 }

/-- [Lcom/example/libsortkey/libsortkey/values/AtomicType; -/
def k12 : Class := { plain "[Lcom/example/libsortkey/libsortkey/values/AtomicType;" (some 0) with kind := .array 6 (.object "com/example/libsortkey/libsortkey/values/AtomicType"), interfaces := #[7, 4], accessFlags := 1041 }

def heap : Heap := #[{ cls := 6, slots := #[.ref 1, .ref 2, .ref 3, .ref 4, .ref 5, .ref 6, .ref 7, .ref 8, .ref 9, .ref 10, .ref 11, .ref 12, .ref 13, .ref 14, .ref 15, .ref 16, .ref 17, .ref 18, .ref 19, .ref 20, .null, .null], vm := .statics 6 },
  { cls := 6, slots := #[.null, .int 0, .int 0, .null, .null, .int 0, .null], vm := .none },
  { cls := 6, slots := #[.null, .int 1, .int 0, .null, .ref 1, .int 0, .null], vm := .none },
  { cls := 6, slots := #[.null, .int 2, .int 0, .null, .ref 2, .int 0, .null], vm := .none },
  { cls := 6, slots := #[.null, .int 3, .int 0, .null, .ref 3, .int 0, .null], vm := .none },
  { cls := 6, slots := #[.null, .int 4, .int 0, .null, .null, .int 0, .null], vm := .none },
  { cls := 6, slots := #[.null, .int 5, .int 0, .null, .ref 5, .int 0, .null], vm := .none },
  { cls := 6, slots := #[.null, .int 6, .int 0, .null, .ref 5, .int 0, .null], vm := .none },
  { cls := 6, slots := #[.null, .int 7, .int 0, .null, .null, .int 0, .null], vm := .none },
  { cls := 6, slots := #[.null, .int 8, .int 0, .null, .null, .int 0, .null], vm := .none },
  { cls := 6, slots := #[.null, .int 9, .int 0, .null, .null, .int 0, .null], vm := .none },
  { cls := 6, slots := #[.null, .int 10, .int 0, .null, .null, .int 0, .null], vm := .none },
  { cls := 6, slots := #[.null, .int 11, .int 0, .null, .null, .int 0, .null], vm := .none },
  { cls := 6, slots := #[.null, .int 12, .int 0, .null, .null, .int 0, .null], vm := .none },
  { cls := 6, slots := #[.null, .int 13, .int 0, .null, .null, .int 0, .null], vm := .none },
  { cls := 6, slots := #[.null, .int 14, .int 0, .null, .null, .int 0, .null], vm := .none },
  { cls := 6, slots := #[.null, .int 15, .int 0, .null, .null, .int 0, .null], vm := .none },
  { cls := 6, slots := #[.null, .int 16, .int 0, .null, .null, .int 0, .null], vm := .none },
  { cls := 6, slots := #[.null, .int 17, .int 0, .null, .null, .int 0, .null], vm := .none },
  { cls := 6, slots := #[.null, .int 18, .int 0, .null, .null, .int 0, .null], vm := .none },
  { cls := 6, slots := #[.null, .int 19, .int 0, .null, .null, .int 0, .null], vm := .none }]
def classes : Array Class := #[k0, k1, k2, k3, k4, k5, k6, k7, k8, k9, k10, k11, k12]
def interned : List (Array UInt16 × Addr) := []
def slotsUsed : Nat := 162
def theMethod : MethodId := ⟨1, 1⟩
def args0 : Array Value := #[.int 5, .int 5]
def aboutOver (below : List Frame) : State where
  vm := { classes := classes, interned := interned.toArray }
  heap := heap
  slotsUsed := slotsUsed
  threads := #[{ frames := .invoking theMethod args0 :: below }]
def below0 : List Frame := [.native { method := ⟨0, 0⟩, args := #[] }]
def about1 : State := aboutOver below0
def p0 : Program := .bare "" "" ""
def e0 : Env := launch0.env 0 0 0
theorem w_frames : about1.frames = Frame.invoking theMethod args0 :: below0 := rfl
set_option maxRecDepth 65536 in
theorem w_args : argsFit about1.vm theMethod args0 = true := by decide +kernel
set_option maxRecDepth 65536 in
theorem w_heap : heapFits about1 = true := by decide +kernel
set_option maxRecDepth 65536 in
theorem w_runnable : about1.curStatus? = some .runnable := by decide +kernel
set_option maxRecDepth 65536 in
theorem w_alone : about1.alone = true := by decide +kernel
set_option maxRecDepth 65536 in
theorem w_named : about1.methodNamed? x = some theMethod := by decide +kernel
set_option maxRecDepth 65536 in
theorem w_hears : about1.hears theMethod below0 = true := by decide +kernel
set_option maxRecDepth 65536 in
theorem w_ripe : about1.ripe theMethod args0 below0 = true := by decide +kernel
theorem w_running : about1.status = .running := rfl
set_option maxRecDepth 65536 in
theorem w_room : about1.hasRoom e0.platform room_1 = true :=
  launch0.hasRoom_least _ room_1 (by decide +kernel) (by decide +kernel) (by decide +kernel) (by decide +kernel) (by decide +kernel) (by decide +kernel)
theorem allAtoms_all (ts : List Jvm.Cond) (a : Array Jvm.Value) (st : Jvm.State) : (allAtoms ts).before a st = ts.all (fun c => c.before a st) := by
  induction ts with
  | nil => rfl
  | cons c t ih =>
    show (Jvm.Cond.and c (allAtoms t)).before a st = _
    rw [Jvm.Cond.before_and, ih, List.all_cons]
def words1 : List Jvm.Cond := Jvm.Cond.code x code maxLocals ret :: tables_1
/-- a 'code' word, met by the world's own term for the bytes: nothing is compared byte by byte -/
theorem code_word {y : MethodName} {bytes : ByteArray} {mx : Nat} {rt : Option FieldType} {a : Array Value} {s : State} {m : MethodId} {meth : Method} {c : Code} (h1 : s.methodNamed? y = some m) (h2 : s.vm.method? m = some meth) (h3 : meth.code = some c) (h4 : c.code = bytes)
    (h5 : (c.maxLocals == mx && c.exceptionTable.isEmpty && decide (c.maxStack ≤ mostOperands) && decide (meth.sig.returnType = rt) && !meth.locks && decide (parseMethodDescriptor y.desc = some meth.sig)) = true) : (Jvm.Cond.code y bytes mx rt).before a s = true := by
  simp only [Bool.and_eq_true, beq_iff_eq, Bool.not_eq_true', decide_eq_true_eq] at h5
  obtain ⟨⟨⟨⟨⟨g1, g2⟩, g3⟩, g4⟩, g5⟩, g6⟩ := h5
  simp [Cond.before, Cond.holds, Cond.value, h1, h2, h3, h4, g1, g2, g3, g4, g5, g6]
def isCode : Jvm.Cond → Bool
  | .code _ _ _ _ => true
  | _ => false
theorem all_split {L : List Jvm.Cond} {P : Jvm.Cond → Bool} (h1 : L.all (fun c => isCode c || P c) = true) (h2 : ∀ c ∈ L.filter isCode, P c = true) : L.all P = true := by
  refine List.all_eq_true.mpr fun c hc => ?_
  have h := List.all_eq_true.mp h1 c hc
  rcases Bool.eq_false_or_eq_true (isCode c) with hi | hi
  · exact h2 c (List.mem_filter.mpr ⟨hc, hi⟩)
  · simpa [hi] using h
set_option maxRecDepth 65536 in
theorem w_c0 : (Jvm.Cond.code x code maxLocals ret).before args0 about1 = true := code_word (m := ⟨1, 1⟩) (meth := k1m1) (c := k1c1) (by decide +kernel) rfl rfl rfl (by decide +kernel)
set_option maxRecDepth 65536 in
theorem w_c1 : (Jvm.Cond.code ({ cls := "com/example/libsortkey/libsortkey/values/AtomicType", name := "promotesTo", desc := "(Lcom/example/libsortkey/libsortkey/values/AtomicType;)Z" } : Jvm.MethodName) prog_17_method_10_code (3 : Nat) (Option.some Jvm.ClassFile.FieldType.boolean)).before args0 about1 = true := code_word (m := ⟨6, 0⟩) (meth := k6m0) (c := k6c0) (by decide +kernel) rfl rfl rfl (by decide +kernel)
def codes1 : List Jvm.Cond := [Jvm.Cond.code x code maxLocals ret, Jvm.Cond.code ({ cls := "com/example/libsortkey/libsortkey/values/AtomicType", name := "promotesTo", desc := "(Lcom/example/libsortkey/libsortkey/values/AtomicType;)Z" } : Jvm.MethodName) prog_17_method_10_code (3 : Nat) (Option.some Jvm.ClassFile.FieldType.boolean)]
set_option maxRecDepth 65536 in
theorem codes_eq : words1.filter isCode = codes1 := rfl
theorem w_codes : ∀ c ∈ words1.filter isCode, c.before args0 about1 = true := by
  rw [codes_eq]
  intro c hc
  simp only [codes1, List.mem_cons, List.not_mem_nil, or_false] at hc
  rcases hc with rfl | rfl
  · exact w_c0
  · exact w_c1
set_option maxRecDepth 65536 in
theorem w_t1 : (words1.take 24).all (fun c => isCode c || c.before args0 about1) = true := by decide +kernel
set_option maxRecDepth 65536 in
theorem w_t2 : ((words1.drop 24).take 24).all (fun c => isCode c || c.before args0 about1) = true := by decide +kernel
set_option maxRecDepth 65536 in
theorem w_t3 : ((words1.drop 24).drop 24).all (fun c => isCode c || c.before args0 about1) = true := by decide +kernel
theorem w_tables : (allAtoms (Jvm.Cond.code x code maxLocals ret :: tables_1)).before args0 about1 = true := by
  rw [allAtoms_all]
  show words1.all (fun c => c.before args0 about1) = true
  refine all_split ?_ w_codes
  rw [← List.take_append_drop 24 words1, List.all_append, w_t1, ← List.take_append_drop 24 (words1.drop 24), List.all_append, w_t2, w_t3]
  rfl
set_option maxRecDepth 65536 in
theorem w_case : (Jvm.Cond.and given_1 narrow_1).before args0 about1 = true := by decide +kernel
theorem w_applies : (headSpec (Jvm.Cond.code x code maxLocals ret :: tables_1) room_1).applies x e0.platform about1 = true :=
  (Spec.applies_iff w_frames).mpr ⟨w_running, w_runnable, w_alone, w_named, w_hears, w_ripe, w_room, w_tables⟩
theorem atStart : AtStart classFile x code maxLocals ret World_1 tables_1 room_1 Calls_1 rest_1 Pre_1 launch0 p0 e0 about1 theMethod args0 below0 :=
  ⟨lists_1, trivial, launch0.admits_env _ _ _, launch0.least_env, fairChoices_fair.cas, fairChoices_fair.clock, w_frames, w_args, w_heap, w_applies, trivial, trivial, w_case⟩
end start1
theorem witness_1 : WitnessClaimed_1 := ⟨start1.p0, start1.e0, start1.about1, start1.theMethod, start1.args0, start1.below0, start1.atStart⟩
end Jvm.Pilot.@@N@@
