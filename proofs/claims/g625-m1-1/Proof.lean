import JvmDerived
import JvmDerived.Pilot.@@N@@Statement
import JvmDerived.Pilot.@@N@@Code
set_option linter.unusedVariables false
set_option linter.unusedSimpArgs false
namespace Jvm.RoadKit
open Sem ClassFile Op Lib Jvm.Stand Jvm.Free Jvm.LawKit
section Own
variable {p : Program} {l : Launch} {e : Env} {R : Room} {s : State} {m : MethodId} {args : Array Value} {below : List Frame} {meth : Method} {c : Code} {T : State} {locs : List Loc} {cells slots : Nat}
/-- from S the run comes to an end of which K holds -/
def own_Go (p : Program) (e : Env) (below : List Frame) (K : State → Outcome → Prop) (S : State) : Prop := ∃ t o, Steps p.tables e below S t ∧ t.status = .running ∧ Ended t below o ∧ K t o
def own_K (s : State) (Q : Option Value → Heap → List Loc → Prop) (k n : Nat) (t : State) (o : Outcome) : Prop := ∃ v L, o = .returned v ∧ Q v t.heap L ∧ FrameEnd s o t L k n
theorem own_go {K : State → Outcome → Prop} {S S' : State} (h : ∀ t, Steps p.tables e below S' t → Steps p.tables e below S t) (g : own_Go p e below K S') : own_Go p e below K S := by
  obtain ⟨t, o, h1, h2⟩ := g; exact ⟨t, o, h t h1, h2⟩
theorem own_via {K : State → Outcome → Prop} {S S' : State} (h : Steps p.tables e below S S') (g : own_Go p e below K S') : own_Go p e below K S := by
  obtain ⟨t, o, h1, h2⟩ := g; exact ⟨t, o, h.trans h1, h2⟩
variable {Q : Option Value → Heap → List Loc → Prop} {k n : Nat}
theorem own_end (X : Stand p l e R s m args below meth c T locs cells slots) {v : Option Value} (hlk : meth.locks = false) (hv : meth.sig.returnType = none → v = none) (hk : cells ≤ k) (hn : slots ≤ n) (hQ : Q v T.heap locs) {S : State}
    (st : ∀ fs, (∀ (f : JFrame) (acts : List Action), f.method = m → f.locked = none → f.entered = [] → (doReturn e (T.setTop f) acts v).1 = T.setFrames fs) → Steps p.tables e below S (T.setFrames fs)) : own_Go p e below (own_K s Q k n) S := by
  obtain ⟨fs, hr, hrun, hended, hW, hsame⟩ := X.leave hv hlk
  exact ⟨_, _, st fs hr, hrun, hended, v, locs, rfl, hQ, ⟨_, rfl⟩, hW, hsame.mono hk hn⟩
theorem own_ret0 (X : Stand p l e R s m args below meth c T locs cells slots) (hx : p.tables.exec = Jvm.exec) (hlk : meth.locks = false) (hret : meth.sig.returnType = none) {pc : Nat} {Ls : Array Slot} (hd : decode c.code pc = .ok (.return_, 1)) (hk : cells ≤ k) (hn : slots ≤ n) (hQ : Q none T.heap locs) :
    own_Go p e below (own_K s Q k n) (T.setTop (mkF m pc Ls [])) := own_end X hlk (fun _ => rfl) hk hn hQ fun _ hr => X.returnOut hx hret hd hr
theorem own_retN (X : Stand p l e R s m args below meth c T locs cells slots) (hx : p.tables.exec = Jvm.exec) (hlk : meth.locks = false) {t : FieldType} (hret : meth.sig.returnType = some t) (ht : t = .boolean ∨ t = .byte ∨ t = .char ∨ t = .short) {pc : Nat} {Ls : Array Slot} {z : Int32} {rest : List Value} (hd : decode c.code pc = .ok (.ireturn, 1)) (hk : cells ≤ k) (hn : slots ≤ n) (hQ : Q (some (.int (nar t z))) T.heap locs) :
    own_Go p e below (own_K s Q k n) (T.setTop (mkF m pc Ls (.int z :: rest))) := own_end X hlk (fun h => by rw [hret] at h; cases h) hk hn hQ fun _ hr => retN X hx hret ht hd hr
theorem own_retI (X : Stand p l e R s m args below meth c T locs cells slots) (hx : p.tables.exec = Jvm.exec) (hlk : meth.locks = false) (hret : meth.sig.returnType = some .int) {pc : Nat} {Ls : Array Slot} {z : Int32} {rest : List Value} (hd : decode c.code pc = .ok (.ireturn, 1)) (hk : cells ≤ k) (hn : slots ≤ n) (hQ : Q (some (.int z)) T.heap locs) :
    own_Go p e below (own_K s Q k n) (T.setTop (mkF m pc Ls (.int z :: rest))) := own_end X hlk (fun h => by rw [hret] at h; cases h) hk hn hQ fun _ hr => retOut X hx hret rfl (Or.inl ⟨rfl, Or.inl rfl, z, rfl⟩) hd hr
theorem own_retJ (X : Stand p l e R s m args below meth c T locs cells slots) (hx : p.tables.exec = Jvm.exec) (hlk : meth.locks = false) (hret : meth.sig.returnType = some .long) {pc : Nat} {Ls : Array Slot} {z : Int64} {rest : List Value} (hd : decode c.code pc = .ok (.lreturn, 1)) (hk : cells ≤ k) (hn : slots ≤ n) (hQ : Q (some (.long z)) T.heap locs) :
    own_Go p e below (own_K s Q k n) (T.setTop (mkF m pc Ls (.long z :: rest))) := own_end X hlk (fun h => by rw [hret] at h; cases h) hk hn hQ fun _ hr => retOut X hx hret rfl (Or.inr (Or.inl ⟨rfl, rfl, z, rfl⟩)) hd hr
theorem own_retR (X : Stand p l e R s m args below meth c T locs cells slots) (hx : p.tables.exec = Jvm.exec) (hlk : meth.locks = false) {t : FieldType} (hret : meth.sig.returnType = some t) (ht : t.isReference = true) {pc : Nat} {Ls : Array Slot} {w : Value} {rest : List Value} (hw : w.isRef = true) (hd : decode c.code pc = .ok (.areturn, 1)) (hk : cells ≤ k) (hn : slots ≤ n) (hQ : Q (some w) T.heap locs) :
    own_Go p e below (own_K s Q k n) (T.setTop (mkF m pc Ls (w :: rest))) := own_end X hlk (fun h => by rw [hret] at h; cases h) hk hn hQ fun _ hr => retOut X hx hret (by cases t <;> first | rfl | cases ht) (Or.inr (Or.inr (Or.inr (Or.inr ⟨rfl, ht, hw⟩)))) hd hr
section Arrays
variable {Z : State} {h : Heap} {a : Addr} {k : ClassId} {ty : FieldType} {z : Int32} {vs : List Value} {dv : Value}
theorem own_iaload {g : JFrame} {target : State} (X : Stand p l e R s m args below meth c T locs cells slots) (hx : p.tables.exec = Jvm.exec) (hZ : Z.Warmed39 s.vm) (eT : T.heap = h) (F : Arv Z h a k .int z vs dv) (j : Int32) (v : Value) (hj : ¬ j < 0 ∧ j < z) (hat : vs.getD j.toNatClampNeg dv = v) (hg : g.method = m) {rest : List Value} (hs : g.stack = .int j :: .ref a :: rest) (hd : decode c.code g.pc = .ok (.iaload, 1))
    (hr : Steps p.tables e below (T.setTop { g with pc := g.pc + 1, stack := v :: rest }) target) : Steps p.tables e below (T.setTop g) target := by
  obtain ⟨cl, A, q, S, N, H, G⟩ := F
  have hi := inb_of S hj
  exact X.iaload hx (j := j) (v := v) (by rw [eT]; exact A.1) (State.isArrayOf_alike hZ.alike A.2.1) A.2.2 hi (Has.at H hi hat) hg hs hd _ hr
theorem own_caload {g : JFrame} {target : State} (X : Stand p l e R s m args below meth c T locs cells slots) (hx : p.tables.exec = Jvm.exec) (hZ : Z.Warmed39 s.vm) (eT : T.heap = h) (F : Arv Z h a k .char z vs dv) (j : Int32) (v : Value) (hj : ¬ j < 0 ∧ j < z) (hat : vs.getD j.toNatClampNeg dv = v) (hg : g.method = m) {rest : List Value} (hs : g.stack = .int j :: .ref a :: rest) (hd : decode c.code g.pc = .ok (.caload, 1))
    (hr : Steps p.tables e below (T.setTop { g with pc := g.pc + 1, stack := v :: rest }) target) : Steps p.tables e below (T.setTop g) target := by
  obtain ⟨cl, A, q, S, N, H, G⟩ := F
  have hi := inb_of S hj
  exact X.caload hx (j := j) (v := v) (by rw [eT]; exact A.1) (State.isArrayOf_alike hZ.alike A.2.1) A.2.2 hi (Has.at H hi hat) hg hs hd _ hr
theorem own_saload {g : JFrame} {target : State} (X : Stand p l e R s m args below meth c T locs cells slots) (hx : p.tables.exec = Jvm.exec) (hZ : Z.Warmed39 s.vm) (eT : T.heap = h) (F : Arv Z h a k .short z vs dv) (j : Int32) (v : Value) (hj : ¬ j < 0 ∧ j < z) (hat : vs.getD j.toNatClampNeg dv = v) (hg : g.method = m) {rest : List Value} (hs : g.stack = .int j :: .ref a :: rest) (hd : decode c.code g.pc = .ok (.saload, 1))
    (hr : Steps p.tables e below (T.setTop { g with pc := g.pc + 1, stack := v :: rest }) target) : Steps p.tables e below (T.setTop g) target := by
  obtain ⟨cl, A, q, S, N, H, G⟩ := F
  have hi := inb_of S hj
  exact X.saload hx (j := j) (v := v) (by rw [eT]; exact A.1) (State.isArrayOf_alike hZ.alike A.2.1) A.2.2 hi (Has.at H hi hat) hg hs hd _ hr
theorem own_baload {g : JFrame} {target : State} (X : Stand p l e R s m args below meth c T locs cells slots) (hx : p.tables.exec = Jvm.exec) (hZ : Z.Warmed39 s.vm) (eT : T.heap = h) (F : Arv Z h a k .byte z vs dv) (j : Int32) (v : Value) (hj : ¬ j < 0 ∧ j < z) (hat : vs.getD j.toNatClampNeg dv = v) (hg : g.method = m) {rest : List Value} (hs : g.stack = .int j :: .ref a :: rest) (hd : decode c.code g.pc = .ok (.baload, 1))
    (hr : Steps p.tables e below (T.setTop { g with pc := g.pc + 1, stack := v :: rest }) target) : Steps p.tables e below (T.setTop g) target := by
  obtain ⟨cl, A, q, S, N, H, G⟩ := F
  have hi := inb_of S hj
  exact X.baloadBytes hx (j := j) (v := v) (by rw [eT]; exact A.1) (State.isArrayOf_alike hZ.alike A.2.1) A.2.2 hi (Has.at H hi hat) hg hs hd _ hr
theorem own_zaload {g : JFrame} {target : State} (X : Stand p l e R s m args below meth c T locs cells slots) (hx : p.tables.exec = Jvm.exec) (hZ : Z.Warmed39 s.vm) (eT : T.heap = h) (F : Arv Z h a k .boolean z vs dv) (j : Int32) (v : Value) (hj : ¬ j < 0 ∧ j < z) (hat : vs.getD j.toNatClampNeg dv = v) (hg : g.method = m) {rest : List Value} (hs : g.stack = .int j :: .ref a :: rest) (hd : decode c.code g.pc = .ok (.baload, 1))
    (hr : Steps p.tables e below (T.setTop { g with pc := g.pc + 1, stack := v :: rest }) target) : Steps p.tables e below (T.setTop g) target := by
  obtain ⟨cl, A, q, S, N, H, G⟩ := F
  have hi := inb_of S hj
  exact X.baloadBooleans hx (j := j) (v := v) (by rw [eT]; exact A.1) (State.isArrayOf_alike hZ.alike A.2.1) A.2.2 hi (Has.at H hi hat) hg hs hd _ hr
theorem own_laload {g : JFrame} {target : State} (X : Stand p l e R s m args below meth c T locs cells slots) (hx : p.tables.exec = Jvm.exec) (hZ : Z.Warmed39 s.vm) (eT : T.heap = h) (F : Arv Z h a k .long z vs dv) (j : Int32) (v : Value) (hj : ¬ j < 0 ∧ j < z) (hat : vs.getD j.toNatClampNeg dv = v) (hg : g.method = m) {rest : List Value} (hs : g.stack = .int j :: .ref a :: rest) (hd : decode c.code g.pc = .ok (.laload, 1))
    (hr : Steps p.tables e below (T.setTop { g with pc := g.pc + 1, stack := v :: rest }) target) : Steps p.tables e below (T.setTop g) target := by
  obtain ⟨cl, A, q, S, N, H, G⟩ := F
  have hi := inb_of S hj
  exact X.laload hx (j := j) (v := v) (by rw [eT]; exact A.1) (State.isArrayOf_alike hZ.alike A.2.1) A.2.2 hi (Has.at H hi hat) hg hs hd _ hr
theorem own_aaload {g : JFrame} {target : State} (X : Stand p l e R s m args below meth c T locs cells slots) (hx : p.tables.exec = Jvm.exec) (hZ : Z.Warmed39 s.vm) (eT : T.heap = h) (F : Arv Z h a k ty z vs dv) (j : Int32) (v : Value) (hj : ¬ j < 0 ∧ j < z) (hat : vs.getD j.toNatClampNeg dv = v) (hty : ty.isReference = true) (hg : g.method = m) {rest : List Value} (hs : g.stack = .int j :: .ref a :: rest) (hd : decode c.code g.pc = .ok (.aaload, 1))
    (hr : Steps p.tables e below (T.setTop { g with pc := g.pc + 1, stack := v :: rest }) target) : Steps p.tables e below (T.setTop g) target := by
  obtain ⟨cl, A, q, S, N, H, G⟩ := F
  have hi := inb_of S hj
  exact X.aaload hx (j := j) (v := v) (by rw [eT]; exact A.1) (State.isArrayOf_alike hZ.alike A.2.1) hty A.2.2 hi (Has.at H hi hat) hg hs hd _ hr
theorem own_alen {g : JFrame} {target : State} (X : Stand p l e R s m args below meth c T locs cells slots) (hx : p.tables.exec = Jvm.exec) (hZ : Z.Warmed39 s.vm) (eT : T.heap = h) (F : Arv Z h a k ty z vs dv) (hg : g.method = m) {rest : List Value} (hs : g.stack = .ref a :: rest) (hd : decode c.code g.pc = .ok (.arraylength, 1))
    (hr : Steps p.tables e below (T.setTop { g with pc := g.pc + 1, stack := .int z :: rest }) target) : Steps p.tables e below (T.setTop g) target := by
  obtain ⟨cl, A, q, S, N, -, -⟩ := F
  exact X.arraylength hx (by rw [eT]; exact A.1) (State.isArrayOf_alike hZ.alike A.2.1) hg hs hd _ (by rw [len_of S N]; exact hr)
theorem own_stI {K : State → Outcome → Prop} {n0 : Nat} (X : Stand p l e R s m args below meth c T locs cells slots) (hx : p.tables.exec = Jvm.exec) (hZ : Z.Warmed39 s.vm) (eT : T.heap = h) (F : Arv Z h a k .int z vs dv) (j : Int32) (x : Int32) (i : Nat) (hj : ¬ j < 0 ∧ j < z) (hi : j.toNatClampNeg = i) (hl : i < vs.length) (vs' : List Value) (hv : vs.set i (.int x) = vs') (N : Fr n0 locs) (ge : n0 ≤ a) {pc : Nat} {Ls : Array Slot} {rest : List Value} (hd : decode c.code pc = .ok (.iastore, 1))
    (kk : ∀ (T' : State) (h' : Heap) (L' : List Loc), Stand p l e R s m args below meth c T' L' cells slots → T'.heap = h' → Wr h h' a i (.int x) → Fr n0 L' → Arv Z h' a k .int z vs' dv → own_Go p e below K (T'.setTop (mkF m (pc + 1) Ls rest))) : own_Go p e below K (T.setTop (mkF m pc Ls (.int x :: .int j :: .ref a :: rest))) := by
  obtain ⟨cl, A, q, S, M, H, G⟩ := F
  subst hi; subst hv
  obtain ⟨T', h', X', e', W, st⟩ := stI X hx hZ eT A (j := j) (inb_of S hj) (g := mkF m pc Ls (.int x :: .int j :: .ref a :: rest)) rfl rfl hd
  exact own_go st (kk T' h' _ X' e' W (Fr.snoc X' N ge) (Arv.set A q S M H G rfl W _ rfl hl))
theorem own_stJ {K : State → Outcome → Prop} {n0 : Nat} (X : Stand p l e R s m args below meth c T locs cells slots) (hx : p.tables.exec = Jvm.exec) (hZ : Z.Warmed39 s.vm) (eT : T.heap = h) (F : Arv Z h a k .long z vs dv) (j : Int32) (x : Int64) (i : Nat) (hj : ¬ j < 0 ∧ j < z) (hi : j.toNatClampNeg = i) (hl : i < vs.length) (vs' : List Value) (hv : vs.set i (.long x) = vs') (N : Fr n0 locs) (ge : n0 ≤ a) {pc : Nat} {Ls : Array Slot} {rest : List Value} (hd : decode c.code pc = .ok (.lastore, 1))
    (kk : ∀ (T' : State) (h' : Heap) (L' : List Loc), Stand p l e R s m args below meth c T' L' cells slots → T'.heap = h' → Wr h h' a i (.long x) → Fr n0 L' → Arv Z h' a k .long z vs' dv → own_Go p e below K (T'.setTop (mkF m (pc + 1) Ls rest))) : own_Go p e below K (T.setTop (mkF m pc Ls (.long x :: .int j :: .ref a :: rest))) := by
  obtain ⟨cl, A, q, S, M, H, G⟩ := F
  subst hi; subst hv
  obtain ⟨T', h', X', e', W, st⟩ := stJ X hx hZ eT A (j := j) (inb_of S hj) (g := mkF m pc Ls (.long x :: .int j :: .ref a :: rest)) rfl rfl hd
  exact own_go st (kk T' h' _ X' e' W (Fr.snoc X' N ge) (Arv.set A q S M H G rfl W _ rfl hl))
theorem own_stB {K : State → Outcome → Prop} {n0 : Nat} (X : Stand p l e R s m args below meth c T locs cells slots) (hx : p.tables.exec = Jvm.exec) (hZ : Z.Warmed39 s.vm) (eT : T.heap = h) (F : Arv Z h a k .byte z vs dv) (j : Int32) (x x' : Int32) (i : Nat) (hj : ¬ j < 0 ∧ j < z) (hi : j.toNatClampNeg = i) (hl : i < vs.length) (hn : nar .byte x = x') (vs' : List Value) (hv : vs.set i (.int x') = vs') (N : Fr n0 locs) (ge : n0 ≤ a) {pc : Nat} {Ls : Array Slot} {rest : List Value} (hd : decode c.code pc = .ok (.bastore, 1))
    (kk : ∀ (T' : State) (h' : Heap) (L' : List Loc), Stand p l e R s m args below meth c T' L' cells slots → T'.heap = h' → Wr h h' a i (.int x') → Fr n0 L' → Arv Z h' a k .byte z vs' dv → own_Go p e below K (T'.setTop (mkF m (pc + 1) Ls rest))) : own_Go p e below K (T.setTop (mkF m pc Ls (.int x :: .int j :: .ref a :: rest))) := by
  obtain ⟨cl, A, q, S, M, H, G⟩ := F
  subst hn; subst hi; subst hv
  obtain ⟨T', h', X', e', W, st⟩ := stB X hx hZ eT A (j := j) (inb_of S hj) (g := mkF m pc Ls (.int x :: .int j :: .ref a :: rest)) rfl rfl hd
  exact own_go st (kk T' h' _ X' e' W (Fr.snoc X' N ge) (Arv.set A q S M H G (fits_nar_byte _) W _ rfl hl))
theorem own_stZ {K : State → Outcome → Prop} {n0 : Nat} (X : Stand p l e R s m args below meth c T locs cells slots) (hx : p.tables.exec = Jvm.exec) (hZ : Z.Warmed39 s.vm) (eT : T.heap = h) (F : Arv Z h a k .boolean z vs dv) (j : Int32) (x x' : Int32) (i : Nat) (hj : ¬ j < 0 ∧ j < z) (hi : j.toNatClampNeg = i) (hl : i < vs.length) (hn : nar .boolean x = x') (vs' : List Value) (hv : vs.set i (.int x') = vs') (N : Fr n0 locs) (ge : n0 ≤ a) {pc : Nat} {Ls : Array Slot} {rest : List Value} (hd : decode c.code pc = .ok (.bastore, 1))
    (kk : ∀ (T' : State) (h' : Heap) (L' : List Loc), Stand p l e R s m args below meth c T' L' cells slots → T'.heap = h' → Wr h h' a i (.int x') → Fr n0 L' → Arv Z h' a k .boolean z vs' dv → own_Go p e below K (T'.setTop (mkF m (pc + 1) Ls rest))) : own_Go p e below K (T.setTop (mkF m pc Ls (.int x :: .int j :: .ref a :: rest))) := by
  obtain ⟨cl, A, q, S, M, H, G⟩ := F
  subst hn; subst hi; subst hv
  obtain ⟨T', h', X', e', W, st⟩ := stZ X hx hZ eT A (j := j) (inb_of S hj) (g := mkF m pc Ls (.int x :: .int j :: .ref a :: rest)) rfl rfl hd
  exact own_go st (kk T' h' _ X' e' W (Fr.snoc X' N ge) (Arv.set A q S M H G (fits_nar_bool _) W _ rfl hl))
theorem own_stC {K : State → Outcome → Prop} {n0 : Nat} (X : Stand p l e R s m args below meth c T locs cells slots) (hx : p.tables.exec = Jvm.exec) (hZ : Z.Warmed39 s.vm) (eT : T.heap = h) (F : Arv Z h a k .char z vs dv) (j : Int32) (x x' : Int32) (i : Nat) (hj : ¬ j < 0 ∧ j < z) (hi : j.toNatClampNeg = i) (hl : i < vs.length) (hn : nar .char x = x') (vs' : List Value) (hv : vs.set i (.int x') = vs') (N : Fr n0 locs) (ge : n0 ≤ a) {pc : Nat} {Ls : Array Slot} {rest : List Value} (hd : decode c.code pc = .ok (.castore, 1))
    (kk : ∀ (T' : State) (h' : Heap) (L' : List Loc), Stand p l e R s m args below meth c T' L' cells slots → T'.heap = h' → Wr h h' a i (.int x') → Fr n0 L' → Arv Z h' a k .char z vs' dv → own_Go p e below K (T'.setTop (mkF m (pc + 1) Ls rest))) : own_Go p e below K (T.setTop (mkF m pc Ls (.int x :: .int j :: .ref a :: rest))) := by
  obtain ⟨cl, A, q, S, M, H, G⟩ := F
  subst hn; subst hi; subst hv
  obtain ⟨T', h', X', e', W, st⟩ := stC X hx hZ eT A (j := j) (inb_of S hj) (g := mkF m pc Ls (.int x :: .int j :: .ref a :: rest)) rfl rfl hd
  exact own_go st (kk T' h' _ X' e' W (Fr.snoc X' N ge) (Arv.set A q S M H G (fits_nar_char _) W _ rfl hl))
theorem own_stS {K : State → Outcome → Prop} {n0 : Nat} (X : Stand p l e R s m args below meth c T locs cells slots) (hx : p.tables.exec = Jvm.exec) (hZ : Z.Warmed39 s.vm) (eT : T.heap = h) (F : Arv Z h a k .short z vs dv) (j : Int32) (x x' : Int32) (i : Nat) (hj : ¬ j < 0 ∧ j < z) (hi : j.toNatClampNeg = i) (hl : i < vs.length) (hn : nar .short x = x') (vs' : List Value) (hv : vs.set i (.int x') = vs') (N : Fr n0 locs) (ge : n0 ≤ a) {pc : Nat} {Ls : Array Slot} {rest : List Value} (hd : decode c.code pc = .ok (.sastore, 1))
    (kk : ∀ (T' : State) (h' : Heap) (L' : List Loc), Stand p l e R s m args below meth c T' L' cells slots → T'.heap = h' → Wr h h' a i (.int x') → Fr n0 L' → Arv Z h' a k .short z vs' dv → own_Go p e below K (T'.setTop (mkF m (pc + 1) Ls rest))) : own_Go p e below K (T.setTop (mkF m pc Ls (.int x :: .int j :: .ref a :: rest))) := by
  obtain ⟨cl, A, q, S, M, H, G⟩ := F
  subst hn; subst hi; subst hv
  obtain ⟨T', h', X', e', W, st⟩ := stS X hx hZ eT A (j := j) (inb_of S hj) (g := mkF m pc Ls (.int x :: .int j :: .ref a :: rest)) rfl rfl hd
  exact own_go st (kk T' h' _ X' e' W (Fr.snoc X' N ge) (Arv.set A q S M H G (fits_nar_short _) W _ rfl hl))
theorem own_stR {K : State → Outcome → Prop} {n0 : Nat} (X : Stand p l e R s m args below meth c T locs cells slots) (hx : p.tables.exec = Jvm.exec) (hZ : Z.Warmed39 s.vm) (eT : T.heap = h) (F : Arv Z h a k ty z vs dv) (j : Int32) (v : Value) (i : Nat) (hj : ¬ j < 0 ∧ j < z) (hi : j.toNatClampNeg = i) (hl : i < vs.length) (sto : ∀ cl : Cell, Arr Z h a cl ty → cl.cls = k → Sto Z h a v) (hty : ty.isReference = true) (vs' : List Value) (hv : vs.set i v = vs') (N : Fr n0 locs) (ge : n0 ≤ a) {pc : Nat} {Ls : Array Slot} {rest : List Value} (hd : decode c.code pc = .ok (.aastore, 1))
    (kk : ∀ (T' : State) (h' : Heap) (L' : List Loc), Stand p l e R s m args below meth c T' L' cells slots → T'.heap = h' → Wr h h' a i v → Fr n0 L' → Arv Z h' a k ty z vs' dv → own_Go p e below K (T'.setTop (mkF m (pc + 1) Ls rest))) : own_Go p e below K (T.setTop (mkF m pc Ls (v :: .int j :: .ref a :: rest))) := by
  obtain ⟨cl, A, q, S, M, H, G⟩ := F
  subst hi; subst hv
  have so := sto cl A q
  obtain ⟨T', h', X', e', W, st⟩ := stR X hx hZ eT A (j := j) (inb_of S hj) hty so (g := mkF m pc Ls (v :: .int j :: .ref a :: rest)) rfl rfl hd
  have fv : fits ty v = true := by
    rcases so with rfl | ⟨_, _, _, _, _, _, _, y, _, _, _, _, rfl, _⟩ <;> cases ty <;> first | rfl | cases hty
  exact own_go st (kk T' h' _ X' e' W (Fr.snoc X' N ge) (Arv.set A q S M H G fv W _ rfl hl))
end Arrays
section Calls
variable {own : String} {index : Nat} {y z : MethodName} {bytes : ByteArray} {maxL : Nat} {ret : Option FieldType} {rm : Room} {W : Nat} {as' : Array Value} {Z : State} {a0 : Array Value} {h : Heap} {K : State → Outcome → Prop} {pc : Nat} {Ls : Array Slot} {argsL rest stk : List Value} {C : String} {b : Addr}
theorem own_cs (X : Stand p l e R s m args below meth c T locs cells slots) (hx : p.tables.exec = Jvm.exec) (hZ : Z.Warmed39 s.vm) (hown : s.vm.findClass own = some m.cls) (w1 : (Cond.methodLink own index y).before a0 Z = true) (w2 : (Cond.static y).before a0 Z = true) (w3 : (Cond.initialized y.cls).before a0 Z = true) (w4 : (Cond.code y bytes maxL ret).before a0 Z = true)
    (hy : y.cls ≠ "java/lang/invoke/MethodHandle" ∧ y.cls ≠ "java/lang/invoke/VarHandle")
    (hM : MetFree l y (head1 [Cond.code y bytes maxL ret] rm) (fun a U => a = as' ∧ Z.Warmed39 U.vm ∧ U.heap = h) (fun _ _ _ _ _ => True) (fun _ U o U' => ∃ v L, o = .returned v ∧ Q v U'.heap L ∧ FrameEnd U o U' L rm.cells rm.slots))
    (hf : rm.frames + 1 ≤ R.frames) (hl : W + (maxL + 11) + rm.locals ≤ R.locals) (hc : cells + rm.cells ≤ R.cells) (hs : slots + rm.slots ≤ R.slots) (eT : T.heap = h) (hsz : Ls.size = c.maxLocals) (hlen : ∀ sig, parseMethodDescriptor y.desc = some sig → argsL.length = sig.parameters.length)
    (hst : stk = argsL.reverse ++ rest) (has : argsL.toArray = as') (hW : (rest.map fun v => v.category).sum ≤ W) (hd : decode c.code pc = .ok (.invokestatic index, 3))
    (k : ∀ (v : Option Value) (T' : State) (L : List Loc), Stand p l e R s m args below meth c T' (locs ++ L) (cells + rm.cells) (slots + rm.slots) → Q v T'.heap L → own_Go p e below K (T'.setTop (mkF m (pc + 3) Ls (v.toList ++ rest)))) : own_Go p e below K (T.setTop (mkF m pc Ls stk)) := by
  obtain ⟨v, _, ⟨T', L', k', n'⟩, -, X', ⟨L, hQ, h1, h2, h3⟩, st⟩ := Jvm.LawKit.callS X hx (y := y) hown (mvT hZ w1) (mvT hZ w2) (mvT hZ w3) (mvT hZ w4) hy (backOf (W := W) hM hZ w4 w3 hf hl) (g := mkF m pc Ls stk) rfl hsz (argsL := argsL) (rest := rest) hlen hst (by show 2 * 0 + _ ≤ _; simpa using hW) hd (fun _ _ => ⟨has, eT, hc, hs⟩)
  dsimp only [Pt.U, Pt.locs, Pt.cells, Pt.slots] at X' h1 h2 h3 st hQ
  subst h1 h2 h3
  exact own_go st (k v T' L X' hQ)
theorem own_cp (X : Stand p l e R s m args below meth c T locs cells slots) (hx : p.tables.exec = Jvm.exec) (hZ : Z.Warmed39 s.vm) (hown : s.vm.findClass own = some m.cls) (hy1 : y.name = "<init>") (w1 : (Cond.methodLink own index y).before a0 Z = true) (w2 : (Cond.instanceMethod y).before a0 Z = true) (w3 : (Cond.initialized y.cls).before a0 Z = true) (w4 : (Cond.code y bytes maxL none).before a0 Z = true)
    (hy : y.cls ≠ "java/lang/invoke/MethodHandle" ∧ y.cls ≠ "java/lang/invoke/VarHandle")
    (hM : MetFree l y (head1 [Cond.code y bytes maxL none] rm) (fun a U => a = as' ∧ Z.Warmed39 U.vm ∧ U.heap = h) (fun _ _ _ _ _ => True) (fun _ U o U' => ∃ v L, o = .returned v ∧ Q v U'.heap L ∧ FrameEnd U o U' L rm.cells rm.slots))
    (hf : rm.frames + 1 ≤ R.frames) (hl : W + (maxL + 11) + rm.locals ≤ R.locals) (hc : cells + rm.cells ≤ R.cells) (hs : slots + rm.slots ≤ R.slots) (eT : T.heap = h) (hsz : Ls.size = c.maxLocals) (hlen : ∀ sig, parseMethodDescriptor y.desc = some sig → argsL.length = sig.parameters.length)
    (hst : stk = argsL.reverse ++ .ref b :: rest) (has : (.ref b :: argsL).toArray = as') (hW : (rest.map fun v => v.category).sum ≤ W) (hd : decode c.code pc = .ok (.invokespecial index, 3))
    (k : ∀ (v : Option Value) (T' : State) (L : List Loc), Stand p l e R s m args below meth c T' (locs ++ L) (cells + rm.cells) (slots + rm.slots) → Q v T'.heap L → own_Go p e below K (T'.setTop (mkF m (pc + 3) Ls (v.toList ++ rest)))) : own_Go p e below K (T.setTop (mkF m pc Ls stk)) := by
  obtain ⟨v, _, ⟨T', L', k', n'⟩, -, X', ⟨L, hQ, h1, h2, h3⟩, st⟩ := X.specialBack hx (y := y) hy1 hown (mvT hZ w1) (mvT hZ w2) (mvT hZ w4) hy (backOf (W := W) hM hZ w4 w3 hf hl) (g := mkF m pc Ls stk) rfl hsz (Steps.refl _) (a := b) (argsL := argsL) (rest := rest) hlen hst (by show 2 * 0 + _ ≤ _; simpa using hW) hd (fun _ _ => ⟨has, eT, hc, hs⟩)
  dsimp only [Pt.U, Pt.locs, Pt.cells, Pt.slots] at X' h1 h2 h3 st hQ
  subst h1 h2 h3
  exact own_via st (k v T' L X' hQ)
theorem own_cv (X : Stand p l e R s m args below meth c T locs cells slots) (hx : p.tables.exec = Jvm.exec) (hZ : Z.Warmed39 s.vm) (hown : s.vm.findClass own = some m.cls) (nf : NotFace s y) (w1 : (Cond.methodLink own index y).before a0 Z = true) (w2 : (Cond.declares y).before a0 Z = true) (w5 : (Cond.selects C y z).before a0 Z = true) (w6 : (Cond.instanceMethod z).before a0 Z = true) (w3 : (Cond.initialized z.cls).before a0 Z = true) (w4 : (Cond.code z bytes maxL ret).before a0 Z = true)
    (hy : y.cls ≠ "java/lang/invoke/MethodHandle" ∧ y.cls ≠ "java/lang/invoke/VarHandle") (E : Exa Z h b C)
    (hM : MetFree l z (head1 [Cond.code z bytes maxL ret] rm) (fun a U => a = as' ∧ Z.Warmed39 U.vm ∧ U.heap = h) (fun _ _ _ _ _ => True) (fun _ U o U' => ∃ v L, o = .returned v ∧ Q v U'.heap L ∧ FrameEnd U o U' L rm.cells rm.slots))
    (hf : rm.frames + 1 ≤ R.frames) (hl : W + (maxL + 11) + rm.locals ≤ R.locals) (hc : cells + rm.cells ≤ R.cells) (hs : slots + rm.slots ≤ R.slots) (eT : T.heap = h) (hsz : Ls.size = c.maxLocals) (hlen : ∀ sig, parseMethodDescriptor y.desc = some sig → argsL.length = sig.parameters.length)
    (hst : stk = argsL.reverse ++ .ref b :: rest) (has : (.ref b :: argsL).toArray = as') (hW : (rest.map fun v => v.category).sum ≤ W) (hd : decode c.code pc = .ok (.invokevirtual index, 3))
    (k : ∀ (v : Option Value) (T' : State) (L : List Loc), Stand p l e R s m args below meth c T' (locs ++ L) (cells + rm.cells) (slots + rm.slots) → Q v T'.heap L → own_Go p e below K (T'.setTop (mkF m (pc + 3) Ls (v.toList ++ rest)))) : own_Go p e below K (T.setTop (mkF m pc Ls stk)) := by
  obtain ⟨cq, kq, qa, qb, qc⟩ := isOf hZ eT E
  obtain ⟨v, _, ⟨T', L', k', n'⟩, -, X', ⟨L, hQ, h1, h2, h3⟩, st⟩ := X.virtualBack hx (y := y) (z := z) hown (mvT hZ w1) (mvT hZ w2) nf (mvT hZ w5) (mvT hZ w6) hy (backOf (W := W) hM hZ w4 w3 hf hl) qa qc (g := mkF m pc Ls stk) rfl hsz (Steps.refl _) (argsL := argsL) (rest := rest) hlen hst (by show 2 * 0 + _ ≤ _; simpa using hW) hd (fun _ _ => ⟨has, eT, hc, hs⟩)
  dsimp only [Pt.U, Pt.locs, Pt.cells, Pt.slots] at X' h1 h2 h3 st hQ
  subst h1 h2 h3
  exact own_via st (k v T' L X' hQ)
theorem own_cq (X : Stand p l e R s m args below meth c T locs cells slots) (hx : p.tables.exec = Jvm.exec) (hZ : Z.Warmed39 s.vm) (hown : s.vm.findClass own = some m.cls) (w1 : (Cond.methodLink own index y).before a0 Z = true) (w6 : (Cond.instanceMethod y).before a0 Z = true) (w5 : (Cond.selects y.cls y y).before a0 Z = true) (w7 : (Cond.privateMethod y).before a0 Z = true) (w3 : (Cond.initialized y.cls).before a0 Z = true) (w4 : (Cond.code y bytes maxL ret).before a0 Z = true)
    (hy : y.cls ≠ "java/lang/invoke/MethodHandle" ∧ y.cls ≠ "java/lang/invoke/VarHandle") (E : Exa Z h b C)
    (hM : MetFree l y (head1 [Cond.code y bytes maxL ret] rm) (fun a U => a = as' ∧ Z.Warmed39 U.vm ∧ U.heap = h) (fun _ _ _ _ _ => True) (fun _ U o U' => ∃ v L, o = .returned v ∧ Q v U'.heap L ∧ FrameEnd U o U' L rm.cells rm.slots))
    (hf : rm.frames + 1 ≤ R.frames) (hl : W + (maxL + 11) + rm.locals ≤ R.locals) (hc : cells + rm.cells ≤ R.cells) (hs : slots + rm.slots ≤ R.slots) (eT : T.heap = h) (hsz : Ls.size = c.maxLocals) (hlen : ∀ sig, parseMethodDescriptor y.desc = some sig → argsL.length = sig.parameters.length)
    (hst : stk = argsL.reverse ++ .ref b :: rest) (has : (.ref b :: argsL).toArray = as') (hW : (rest.map fun v => v.category).sum ≤ W) (hd : decode c.code pc = .ok (.invokevirtual index, 3))
    (k : ∀ (v : Option Value) (T' : State) (L : List Loc), Stand p l e R s m args below meth c T' (locs ++ L) (cells + rm.cells) (slots + rm.slots) → Q v T'.heap L → own_Go p e below K (T'.setTop (mkF m (pc + 3) Ls (v.toList ++ rest)))) : own_Go p e below K (T.setTop (mkF m pc Ls stk)) := by
  obtain ⟨cq, q1, q2⟩ := E.cell
  obtain ⟨v, _, ⟨T', L', k', n'⟩, -, X', ⟨L, hQ, h1, h2, h3⟩, st⟩ := X.privateBack hx (y := y) hown (mvT hZ w1) (mvT hZ w6) (mvT hZ w5) (Cond.privateMethod_at (mvP hZ w7 (args := #[]))) (mvT hZ w4) hy (backOf (W := W) hM hZ w4 w3 hf hl) (g := mkF m pc Ls stk) rfl hsz (Steps.refl _) (a := b) (by rw [eT]; exact q1) q2 (argsL := argsL) (rest := rest) hlen hst (by show 2 * 0 + _ ≤ _; simpa using hW) hd (fun _ _ => ⟨has, eT, hc, hs⟩)
  dsimp only [Pt.U, Pt.locs, Pt.cells, Pt.slots] at X' h1 h2 h3 st hQ
  subst h1 h2 h3
  exact own_via st (k v T' L X' hQ)
theorem own_cu {owner : String} (X : Stand p l e R s m args below meth c T locs cells slots) (hx : p.tables.exec = Jvm.exec) (hZ : Z.Warmed39 s.vm) (hown : s.vm.findClass own = some m.cls) (w1 : (Cond.methodLink own index y).before a0 Z = true) (w8 : (Cond.sameMethod y.cls owner y.name y.desc).before a0 Z = true) (w2 : (Cond.declares ⟨owner, y.name, y.desc⟩).before a0 Z = true) (w5 : (Cond.selects C y z).before a0 Z = true) (w6 : (Cond.instanceMethod z).before a0 Z = true) (w3 : (Cond.initialized z.cls).before a0 Z = true) (w4 : (Cond.code z bytes maxL ret).before a0 Z = true)
    (hy : owner ≠ "java/lang/invoke/MethodHandle" ∧ owner ≠ "java/lang/invoke/VarHandle") (E : Exa Z h b C)
    (hM : MetFree l z (head1 [Cond.code z bytes maxL ret] rm) (fun a U => a = as' ∧ Z.Warmed39 U.vm ∧ U.heap = h) (fun _ _ _ _ _ => True) (fun _ U o U' => ∃ v L, o = .returned v ∧ Q v U'.heap L ∧ FrameEnd U o U' L rm.cells rm.slots))
    (hf : rm.frames + 1 ≤ R.frames) (hl : W + (maxL + 11) + rm.locals ≤ R.locals) (hc : cells + rm.cells ≤ R.cells) (hs : slots + rm.slots ≤ R.slots) (eT : T.heap = h) (hsz : Ls.size = c.maxLocals) (hlen : ∀ sig, parseMethodDescriptor y.desc = some sig → argsL.length = sig.parameters.length)
    (hst : stk = argsL.reverse ++ .ref b :: rest) (has : (.ref b :: argsL).toArray = as') (hW : (rest.map fun v => v.category).sum ≤ W) (hd : decode c.code pc = .ok (.invokevirtual index, 3))
    (k : ∀ (v : Option Value) (T' : State) (L : List Loc), Stand p l e R s m args below meth c T' (locs ++ L) (cells + rm.cells) (slots + rm.slots) → Q v T'.heap L → own_Go p e below K (T'.setTop (mkF m (pc + 3) Ls (v.toList ++ rest)))) : own_Go p e below K (T.setTop (mkF m pc Ls stk)) := by
  obtain ⟨cq, kq, qa, qb, qc⟩ := isOf hZ eT E
  obtain ⟨v, _, ⟨T', L', k', n'⟩, -, X', ⟨L, hQ, h1, h2, h3⟩, st⟩ := X.virtualBackUp hx (x := y) (y := z) (owner := owner) hown (mvT hZ w1) (mvT hZ w8) (mvT hZ w2) hy (mvT hZ w5) (mvT hZ w6) (backOf (W := W) hM hZ w4 w3 hf hl) qa qc (g := mkF m pc Ls stk) rfl hsz (Steps.refl _) (argsL := argsL) (rest := rest) hlen hst (by show 2 * 0 + _ ≤ _; simpa using hW) hd (fun _ _ => ⟨has, eT, hc, hs⟩)
  dsimp only [Pt.U, Pt.locs, Pt.cells, Pt.slots] at X' h1 h2 h3 st hQ
  subst h1 h2 h3
  exact own_via st (k v T' L X' hQ)
end Calls
theorem own_fld_eq {Z : State} {h : Heap} {a : Addr} {C n d : String} {v w : Value} (F : Fld Z h a C n d v) (G : Fld Z h a C n d w) : v = w := Classical.byContradiction fun q => Fld.ne F G q rfl
theorem own_nsroot {Z : State} {a0 : Array Value} {O K : String} {n : Nat} (w : (Cond.noSuperclass O).before a0 Z = true) (wk : (Cond.instantiable K n).before a0 Z = true) (hn : O ≠ K) : NS Z O K := by
  obtain ⟨c, k, h1, h2, h3, -, -⟩ := Cond.noSuperclass_spec w
  obtain ⟨t, kt, g1, -⟩ := Cond.instantiable_spec wk
  have ne := ids_ne h1 g1 hn
  refine ⟨c, t, h1, g1, fun fuel => ?_⟩
  cases fuel with
  | zero => rfl
  | succ f => simp [Vm.isSubclassAux, ne, h2, h3]
theorem own_nsno {Z : State} {a0 : Array Value} {C S K : String} {n : Nat} (w : (Cond.superclass C S).before a0 Z = true) (wk : (Cond.instantiable K n).before a0 Z = true) (nn : NS Z C K) (hn : C ≠ K) : ∃ c t, Z.vm.findClass C = some c ∧ Z.vm.findClass K = some t ∧ Z.vm.assignable c t = false := by
  obtain ⟨c, t, h0, g0, n3⟩ := nn
  obtain ⟨p, k, kp, h1, h2, h3, h4, h5, -, h7⟩ := Cond.superclass_spec h0 w
  obtain ⟨t', kt, g1, g2, g5, g6, -⟩ := Cond.instantiable_spec wk
  cases g0.symm.trans g1
  have g7 : kt.isInterface = false := by simp only [Bool.or_eq_false_iff] at g6; exact g6.1
  have ne := ids_ne h0 g0 hn
  refine ⟨c, t, h0, g0, ?_⟩
  show Z.vm.assignableAux (255 + 1) c t = false
  simp [Vm.assignableAux, ne, h2, g2, h5, g5, g7, Vm.isSubclass, n3]
theorem own_arv_ne {Z : State} {h : Heap} {a b : Addr} {k1 k2 : ClassId} {t1 t2 : FieldType} {z1 z2 : Int32} {v1 v2 : List Value} {d1 d2 : Value} (A : Arv Z h a k1 t1 z1 v1 d1) (B : Arv Z h b k2 t2 z2 v2 d2) (q : ¬ z1 = z2) : a ≠ b := by
  refine arv_ne A B (Or.inl fun e => q ?_)
  obtain ⟨_, -, -, -, n1, -⟩ := A
  obtain ⟨_, -, -, -, n2, -⟩ := B
  simp only [Int32.lt_iff_toInt_lt, Int32.reduceToInt, Int32.toNatClampNeg] at n1 n2 e
  apply Int32.toInt_inj.mp
  omega
theorem own_ns_exa {Z : State} {h : Heap} {a : Addr} {C : String} (F : Exa Z h a C) : ∀ cell : Cell, h[a]? = some cell → cell.vm.isStatics = false := fun cell hc => by
  obtain ⟨c, _, h1, -, -, h4, -⟩ := F; cases h1.symm.trans hc; exact h4
theorem own_ns_arv {Z : State} {h : Heap} {a : Addr} {k : ClassId} {ty : FieldType} {z : Int32} {vs : List Value} {dv : Value} (F : Arv Z h a k ty z vs dv) : ∀ cell : Cell, h[a]? = some cell → cell.vm.isStatics = false := fun cell hc => by
  obtain ⟨c, A, -⟩ := F; cases A.1.symm.trans hc; exact A.plain
theorem own_sta_keep {Z : State} {h h' : Heap} {C f d : String} {v : Value} {ws : List Addr} (F : Sta Z h C f d v) (K : Keep h h' ws) (q : ∀ x ∈ ws, ∀ cell : Cell, h[x]? = some cell → cell.vm.isStatics = false) : Sta Z h' C f d v := by
  obtain ⟨cf, i, k, fl, st, cell, h1, h2, h3, h4, h5, h6, h7⟩ := F
  exact ⟨cf, i, k, fl, st, cell, h1, h2, h3, h4, K.2.1 _ _ h5 (fun hm => by rw [q _ hm _ h5] at h6; cases h6), h6, h7⟩
end Own
end Jvm.RoadKit
namespace Jvm.Pilot.@@N@@
open Jvm Jvm.ClassFile Sem Op Lib Jvm.Free Jvm.Stand Jvm.LawKit Jvm.RoadKit Bundle Jvm.Pilot.@@N@@.Jvm.D
theorem own_m (i : Nat) {d : Jvm.Cond} (h : tables_1[i]? = some d) : d ∈ tables_1 := List.mem_of_getElem? h
theorem own_eq_int {args : Array Value} {s first : State} {o : Option Outcome} {idx : List Nat} {t : Term} {k : Int32} (h : (Cond.eq t (.int k)).value args first o s idx = some true) : t.eval args first o idx s = some (.int k) := by
  obtain ⟨x, y, h1, h2, h3, h4⟩ := cmp_v (r := true) (Or.inl h)
  have e2 : y = .int k := (Option.some.inj h2).symm
  subst e2
  obtain ⟨z, rfl⟩ := h4
  have q := h
  simp only [Cond.value, h1, h2] at q
  have : z = k := by simpa using q
  rw [h1, this]
theorem own_eq_ref {args : Array Value} {s first : State} {o : Option Outcome} {idx : List Nat} {t u : Term} {a : Addr} (hu : u.eval args first o idx s = some (.ref a)) (h : (Cond.eq t u).value args first o s idx = some true) : t.eval args first o idx s = some (.ref a) := by
  obtain ⟨x, y, h1, h2, h3, h4⟩ := cmp_v (r := true) (Or.inl h)
  cases hu.symm.trans h2
  have q := h
  simp only [Cond.value, h1, h2] at q
  cases x <;> simp [Kin, Value.isRef] at h3 h4 q ⊢
  rw [h1, q]
def own_at (y0 y1 y2 y3 y4 y5 j : Int32) : Int32 := if j = 0 then y0 else if j = 1 then y1 else if j = 2 then y2 else if j = 3 then y3 else if j = 4 then y4 else y5
theorem own_six (j : Int32) (h : ¬ j < 0 ∧ j < 6) : j = 0 ∨ j = 1 ∨ j = 2 ∨ j = 3 ∨ j = 4 ∨ j = 5 := by
  obtain ⟨h1, h2⟩ := h
  simp only [Int32.lt_iff_toInt_lt, ← Int32.toInt_inj, Int32.reduceToInt] at *; omega
theorem own_get (y0 y1 y2 y3 y4 y5 j : Int32) (h : ¬ j < 0 ∧ j < 6) : ([.int y0, .int y1, .int y2, .int y3, .int y4, .int y5] : List Value).getD j.toNatClampNeg (.int (0 : Int32)) = .int (own_at y0 y1 y2 y3 y4 y5 j) := by
  rcases own_six j h with rfl | rfl | rfl | rfl | rfl | rfl <;> rfl
theorem own_in0 {i t : Int32} (h1 : ¬ i < 0) (h2 : i < t) (h3 : t.toInt ≤ 6) : ¬ i < 0 ∧ i < 6 := by
  simp only [Int32.lt_iff_toInt_lt, Int32.reduceToInt] at *; omega
theorem own_ink {i t n k : Int32} (h1 : ¬ i < 0) (h2 : i < t) (h3 : t.toInt ≤ 6) (h4 : ¬ (t - i) - 1 < n) (hk : 0 ≤ k.toInt ∧ k.toInt ≤ n.toInt ∧ n.toInt ≤ 3) : ¬ (i + k) < 0 ∧ (i + k) < 6 := by
  have q1 := c_isub t i; have q2 := c_isub (t - i) 1; have q3 := c_iadd i k; have r1 := rng32 (t - i); have r2 := rng32 ((t - i) - 1); have r3 := rng32 (i + k); have r4 := rng32 i; have r5 := rng32 t
  simp only [Int32.lt_iff_toInt_lt, Int32.reduceToInt] at *; omega

theorem own_d_method_2_code_0 : decode method_2_code 0 = .ok (.iload_n 1, 1) := by decide +kernel
theorem own_d_method_2_code_1 : decode method_2_code 1 = .ok (.sipush 255, 3) := by decide +kernel
theorem own_d_method_2_code_4 : decode method_2_code 4 = .ok (.iand, 1) := by decide +kernel
theorem own_d_method_2_code_5 : decode method_2_code 5 = .ok (.istore_n 2, 1) := by decide +kernel
theorem own_d_method_2_code_6 : decode method_2_code 6 = .ok (.iload_n 2, 1) := by decide +kernel
theorem own_d_method_2_code_7 : decode method_2_code 7 = .ok (.sipush 192, 3) := by decide +kernel
theorem own_d_method_2_code_10 : decode method_2_code 10 = .ok (.iand, 1) := by decide +kernel
theorem own_d_method_2_code_11 : decode method_2_code 11 = .ok (.sipush 128, 3) := by decide +kernel
theorem own_d_method_2_code_14 : decode method_2_code 14 = .ok (.if_icmp .eq 5, 3) := by decide +kernel
theorem own_d_method_2_code_19 : decode method_2_code 19 = .ok (.iload_n 0, 1) := by decide +kernel
theorem own_d_method_2_code_20 : decode method_2_code 20 = .ok (.bipush 6, 2) := by decide +kernel
theorem own_d_method_2_code_22 : decode method_2_code 22 = .ok (.ishl, 1) := by decide +kernel
theorem own_d_method_2_code_23 : decode method_2_code 23 = .ok (.iload_n 2, 1) := by decide +kernel
theorem own_d_method_2_code_24 : decode method_2_code 24 = .ok (.bipush 63, 2) := by decide +kernel
theorem own_d_method_2_code_26 : decode method_2_code 26 = .ok (.iand, 1) := by decide +kernel
theorem own_d_method_2_code_27 : decode method_2_code 27 = .ok (.ior, 1) := by decide +kernel
theorem own_d_method_2_code_28 : decode method_2_code 28 = .ok (.ireturn, 1) := by decide +kernel
theorem own_d_method_2_code_17 : decode method_2_code 17 = .ok (.iconst (-1), 1) := by decide +kernel
theorem own_d_method_2_code_18 : decode method_2_code 18 = .ok (.ireturn, 1) := by decide +kernel
def own_more (cp : Int32) (c0 : Int32) : Int32 := (if ((c0 &&& (255 : Int32)) &&& (192 : Int32)) = (128 : Int32) then ((cp <<< ((6 : Int32) &&& 31)) ||| ((c0 &&& (255 : Int32)) &&& (63 : Int32))) else (-1 : Int32))
theorem own_pn_com_example_entryway_entryway_format_SourceWellFormedUtf8PinLaw : plainName "com/example/entryway/entryway/format/SourceWellFormedUtf8PinLaw" = true := by first | (simp [plainName, overriddenIn]; done) | decide +kernel
def Q_more (Z : State) (cp : Int32) (c0 : Int32) (h0 : Heap) (n0 : Nat) (v : Option Value) (h : Heap) (L : List Loc) : Prop := v = some (.int (own_more cp c0)) ∧ Fr n0 L ∧ h = h0
set_option maxRecDepth 65536 in
set_option maxHeartbeats 40000000 in
theorem rm_more (l : Launch) (Z : State) (a0 : Array Value) (hw : ∀ d ∈ tables_1, d.before a0 Z = true) (ws : List Jvm.Cond) (cp : Int32) (c0 : Int32) (h0 : Heap) (n0 : Nat) (Z0 : n0 ≤ h0.size) :
    MetFree l (⟨"com/example/entryway/entryway/format/SourceWellFormedUtf8PinLaw", "more", "(IB)I"⟩ : MethodName) (head1 (Jvm.Cond.code (⟨"com/example/entryway/entryway/format/SourceWellFormedUtf8PinLaw", "more", "(IB)I"⟩ : MethodName) method_2_code 3 (some .int) :: ws) ({ frames := 0, cells := 0, slots := 0, locals := 0 } : Room)) (fun aA U => aA = #[(.int cp), (.int c0)] ∧ Z.Warmed39 U.vm ∧ U.heap = h0) (fun _ _ _ _ _ => True) (fun _ U o U' => ∃ v L, o = .returned v ∧ Q_more Z cp c0 h0 n0 v U'.heap L ∧ FrameEnd U o U' L ({ frames := 0, cells := 0, slots := 0, locals := 0 } : Room).cells ({ frames := 0, cells := 0, slots := 0, locals := 0 } : Room).slots) := by
  refine MetFree.of_bodySF (plainFor_of_name own_pn_com_example_entryway_entryway_format_SourceWellFormedUtf8PinLaw) hisR ?_
  intro p e s m args below meth c s₁ Bd hml0 hP hK
  obtain ⟨rfl, hZ, hh⟩ := hP
  have hx := Bd.exec
  have hby := Bd.bytes
  have hlk : meth.locks = false := BodyLoose.notSynchronized Bd
  have hml : c.maxLocals = 3 := hml0
  have hown : s.vm.findClass "com/example/entryway/entryway/format/SourceWellFormedUtf8PinLaw" = some m.cls := findClass_of_methodNamed Bd.named
  have hnm := (name_of_methodNamed Bd.named Bd.method).1
  have X0 : Stand p l e ({ frames := 0, cells := 0, slots := 0, locals := 0 } : Room) s m #[(.int cp), (.int c0)] below meth c s₁ [] 0 0 := Stand.of_body Bd
  have e0 : s₁.heap = h0 := by rw [← hh, Bd.state]; rfl
  have N0 := Fr.nil n0
  show own_Go p e below (own_K s (Q_more Z cp c0 h0 n0) ({ frames := 0, cells := 0, slots := 0, locals := 0 } : Room).cells ({ frames := 0, cells := 0, slots := 0, locals := 0 } : Room).slots) (s₁.setTop (entryFrame m #[(.int cp), (.int c0)] 3))
  rw [(by first | (simp [entryFrame, mkF, argsToLocals, Value.category]; done) | rfl : entryFrame m #[(.int cp), (.int c0)] 3 = mkF m 0 #[.val (.int cp), .val (.int c0), .unset] [])]
  show own_Go p e below _ (s₁.setTop (mkF m 0 #[.val (.int cp), .val (.int c0), .unset] []))
  refine own_go (fun _ hr => XS.iloadN X0.here hx rfl (hb hby own_d_method_2_code_0) rfl (XS.sipush X0.here hx rfl (hb hby own_d_method_2_code_1) (XS.iand X0.here hx rfl (hb hby own_d_method_2_code_4) rfl (XS.istoreN X0.here hx rfl (hb hby own_d_method_2_code_5) rfl (l' := #[.val (.int cp), .val (.int c0), .val (.int (c0 &&& (255 : Int32)))]) rfl (XS.iloadN X0.here hx rfl (hb hby own_d_method_2_code_6) rfl (XS.sipush X0.here hx rfl (hb hby own_d_method_2_code_7) (XS.iand X0.here hx rfl (hb hby own_d_method_2_code_10) rfl (XS.sipush X0.here hx rfl (hb hby own_d_method_2_code_11) hr)))))))) ?_
  show own_Go p e below _ (s₁.setTop (mkF m 14 #[.val (.int cp), .val (.int c0), .val (.int (c0 &&& (255 : Int32)))] [(.int (128 : Int32)), (.int ((c0 &&& (255 : Int32)) &&& (192 : Int32)))]))
  rcases Classical.em (((c0 &&& (255 : Int32)) &&& (192 : Int32)) = (128 : Int32)) with c1 | c1
  · skip
    refine own_go (fun _ hr => XS.icmpYes X0.here hx rfl (pc0 := 14) (pc' := 19) rfl (hb hby own_d_method_2_code_14) rfl (teq c1).1 (by decide) (by decide) hr) ?_
    show own_Go p e below _ (s₁.setTop (mkF m 19 #[.val (.int cp), .val (.int c0), .val (.int (c0 &&& (255 : Int32)))] []))
    refine own_go (fun _ hr => XS.iloadN X0.here hx rfl (hb hby own_d_method_2_code_19) rfl (XS.bipush X0.here hx rfl (hb hby own_d_method_2_code_20) (XS.ishl X0.here hx rfl (hb hby own_d_method_2_code_22) rfl (XS.iloadN X0.here hx rfl (hb hby own_d_method_2_code_23) rfl (XS.bipush X0.here hx rfl (hb hby own_d_method_2_code_24) (XS.iand X0.here hx rfl (hb hby own_d_method_2_code_26) rfl (XS.ior X0.here hx rfl (hb hby own_d_method_2_code_27) rfl hr))))))) ?_
    show own_Go p e below _ (s₁.setTop (mkF m 28 #[.val (.int cp), .val (.int c0), .val (.int (c0 &&& (255 : Int32)))] [(.int ((cp <<< ((6 : Int32) &&& 31)) ||| ((c0 &&& (255 : Int32)) &&& (63 : Int32))))]))
    exact own_retI X0 hx hlk Bd.returns (hb hby own_d_method_2_code_28) (by decide) (by decide) ⟨(congrArg (fun q => some (Value.int q)) (show ((cp <<< ((6 : Int32) &&& 31)) ||| ((c0 &&& (255 : Int32)) &&& (63 : Int32))) = own_more cp c0 from Eq.symm (by unfold own_more; rw [if_pos c1]))), N0, e0⟩
  refine own_go (fun _ hr => XS.icmpNo X0.here hx rfl (hb hby own_d_method_2_code_14) rfl (feq c1).1 hr) ?_
  show own_Go p e below _ (s₁.setTop (mkF m 17 #[.val (.int cp), .val (.int c0), .val (.int (c0 &&& (255 : Int32)))] []))
  refine own_go (fun _ hr => XS.iconst X0.here hx rfl (hb hby own_d_method_2_code_17) hr) ?_
  show own_Go p e below _ (s₁.setTop (mkF m 18 #[.val (.int cp), .val (.int c0), .val (.int (c0 &&& (255 : Int32)))] [(.int (-1 : Int32))]))
  exact own_retI X0 hx hlk Bd.returns (hb hby own_d_method_2_code_18) (by decide) (by decide) ⟨(congrArg (fun q => some (Value.int q)) (show (-1 : Int32) = own_more cp c0 from Eq.symm (by unfold own_more; rw [if_neg c1]))), N0, e0⟩
theorem own_l (x : Int32) : 0 ≤ (x &&& 255).toInt ∧ (x &&& 255).toInt < 256 := by
  have q := c_mask x 255 8 (by decide) (by decide)
  omega
theorem own_f256 : ∀ n : Fin 256, ((Int32.ofNat n.val &&& 192 = 128) ↔ (128 ≤ n.val ∧ n.val < 192)) ∧ ((Int32.ofNat n.val &&& 224 = 192) ↔ (192 ≤ n.val ∧ n.val < 224)) ∧ ((Int32.ofNat n.val &&& 240 = 224) ↔ (224 ≤ n.val ∧ n.val < 240)) ∧ ((Int32.ofNat n.val &&& 248 = 240) ↔ (240 ≤ n.val ∧ n.val < 248)) := by decide +kernel
theorem own_u (u : Int32) (h : 0 ≤ u.toInt ∧ u.toInt < 256) : (u &&& 192 = 128 ↔ 128 ≤ u.toInt ∧ u.toInt < 192) ∧ (u &&& 224 = 192 ↔ 192 ≤ u.toInt ∧ u.toInt < 224) ∧ (u &&& 240 = 224 ↔ 224 ≤ u.toInt ∧ u.toInt < 240) ∧ (u &&& 248 = 240 ↔ 240 ≤ u.toInt ∧ u.toInt < 248) := by
  obtain ⟨n, hn⟩ : ∃ n : Nat, u.toInt = n := ⟨u.toInt.toNat, by omega⟩
  have e : u = Int32.ofNat n := by
    apply Int32.toInt_inj.mp
    rw [Int32.toInt_ofNat_of_lt (by omega)]
    exact hn
  have q := own_f256 ⟨n, by omega⟩
  simp only at q
  rw [← e] at q
  obtain ⟨q1, q2, q3, q4⟩ := q
  exact ⟨q1.trans ⟨fun z => by omega, fun z => by omega⟩, q2.trans ⟨fun z => by omega, fun z => by omega⟩, q3.trans ⟨fun z => by omega, fun z => by omega⟩, q4.trans ⟨fun z => by omega, fun z => by omega⟩⟩
theorem own_more_v (cp c0 : Int32) (h : 0 ≤ cp.toInt ∧ cp.toInt < 262144) : (128 ≤ (c0 &&& 255).toInt ∧ (c0 &&& 255).toInt < 192 → (own_more cp c0).toInt = cp.toInt * 64 + (c0 &&& 255).toInt - 128) ∧ (¬ (128 ≤ (c0 &&& 255).toInt ∧ (c0 &&& 255).toInt < 192) → (own_more cp c0).toInt = -1) := by
  have hu := own_u (c0 &&& 255) (own_l c0)
  refine ⟨fun q => ?_, fun q => ?_⟩
  · have e : own_more cp c0 = ((cp <<< ((6 : Int32) &&& 31)) ||| ((c0 &&& 255) &&& 63)) := by unfold own_more; rw [if_pos (hu.1.mpr q)]
    rw [e]
    have q1 := c_ishl cp 6 6 (by decide)
    have q2 := c_mask (c0 &&& 255) 63 6 (by decide) (by decide)
    have r1 := rng32 (cp <<< ((6 : Int32) &&& 31))
    have q3 := c_or (cp <<< ((6 : Int32) &&& 31)) ((c0 &&& 255) &&& 63) 6 (by decide) 64 (by decide) (by omega) (by omega) (by omega)
    have r2 := rng32 ((cp <<< ((6 : Int32) &&& 31)) ||| ((c0 &&& 255) &&& 63))
    omega
  · have e : own_more cp c0 = -1 := by unfold own_more; rw [if_neg (fun z => q (hu.1.mp z))]
    rw [e]; rfl

theorem own_more_w (cp c0 : Int32) : 0 ≤ cp.toInt ∧ cp.toInt < 262144 → ((128 ≤ (c0 &&& 255).toInt ∧ (c0 &&& 255).toInt < 192 → (own_more cp c0).toInt = cp.toInt * 64 + (c0 &&& 255).toInt - 128) ∧ (¬ (128 ≤ (c0 &&& 255).toInt ∧ (c0 &&& 255).toInt < 192) → (own_more cp c0).toInt = -1)) := own_more_v cp c0
theorem own_d_method_3_code_0 : decode method_3_code 0 = .ok (.iload_n 1, 1) := by decide +kernel
theorem own_d_method_3_code_1 : decode method_3_code 1 = .ok (.ifCond .lt 8, 3) := by decide +kernel
theorem own_d_method_3_code_9 : decode method_3_code 9 = .ok (.iload_n 1, 1) := by decide +kernel
theorem own_d_method_3_code_10 : decode method_3_code 10 = .ok (.ireturn, 1) := by decide +kernel
theorem own_d_method_3_code_4 : decode method_3_code 4 = .ok (.iload_n 1, 1) := by decide +kernel
theorem own_d_method_3_code_5 : decode method_3_code 5 = .ok (.iload_n 2, 1) := by decide +kernel
theorem own_d_method_3_code_6 : decode method_3_code 6 = .ok (.if_icmp .lt 5, 3) := by decide +kernel
theorem own_d_method_3_code_11 : decode method_3_code 11 = .ok (.aload_n 0, 1) := by decide +kernel
theorem own_d_method_3_code_12 : decode method_3_code 12 = .ok (.iload_n 1, 1) := by decide +kernel
theorem own_d_method_3_code_13 : decode method_3_code 13 = .ok (.baload, 1) := by decide +kernel
theorem own_d_method_3_code_14 : decode method_3_code 14 = .ok (.sipush 255, 3) := by decide +kernel
theorem own_d_method_3_code_17 : decode method_3_code 17 = .ok (.iand, 1) := by decide +kernel
theorem own_d_method_3_code_18 : decode method_3_code 18 = .ok (.istore_n 3, 1) := by decide +kernel
theorem own_d_method_3_code_19 : decode method_3_code 19 = .ok (.iload_n 3, 1) := by decide +kernel
theorem own_d_method_3_code_20 : decode method_3_code 20 = .ok (.sipush 128, 3) := by decide +kernel
theorem own_d_method_3_code_23 : decode method_3_code 23 = .ok (.if_icmp .ge 7, 3) := by decide +kernel
theorem own_d_method_3_code_26 : decode method_3_code 26 = .ok (.iload_n 1, 1) := by decide +kernel
theorem own_d_method_3_code_27 : decode method_3_code 27 = .ok (.iconst 1, 1) := by decide +kernel
theorem own_d_method_3_code_28 : decode method_3_code 28 = .ok (.iadd, 1) := by decide +kernel
theorem own_d_method_3_code_29 : decode method_3_code 29 = .ok (.ireturn, 1) := by decide +kernel
theorem own_d_method_3_code_30 : decode method_3_code 30 = .ok (.iload_n 3, 1) := by decide +kernel
theorem own_d_method_3_code_31 : decode method_3_code 31 = .ok (.sipush 224, 3) := by decide +kernel
theorem own_d_method_3_code_34 : decode method_3_code 34 = .ok (.iand, 1) := by decide +kernel
theorem own_d_method_3_code_35 : decode method_3_code 35 = .ok (.sipush 192, 3) := by decide +kernel
theorem own_d_method_3_code_38 : decode method_3_code 38 = .ok (.if_icmp .ne 20, 3) := by decide +kernel
theorem own_d_method_3_code_41 : decode method_3_code 41 = .ok (.iconst 1, 1) := by decide +kernel
theorem own_d_method_3_code_42 : decode method_3_code 42 = .ok (.istore 4, 2) := by decide +kernel
theorem own_d_method_3_code_44 : decode method_3_code 44 = .ok (.iload_n 3, 1) := by decide +kernel
theorem own_d_method_3_code_45 : decode method_3_code 45 = .ok (.bipush 31, 2) := by decide +kernel
theorem own_d_method_3_code_47 : decode method_3_code 47 = .ok (.iand, 1) := by decide +kernel
theorem own_d_method_3_code_48 : decode method_3_code 48 = .ok (.istore 5, 2) := by decide +kernel
theorem own_d_method_3_code_50 : decode method_3_code 50 = .ok (.sipush 128, 3) := by decide +kernel
theorem own_d_method_3_code_53 : decode method_3_code 53 = .ok (.istore 6, 2) := by decide +kernel
theorem own_d_method_3_code_55 : decode method_3_code 55 = .ok (.goto 60, 3) := by decide +kernel
theorem own_d_method_3_code_115 : decode method_3_code 115 = .ok (.iload_n 2, 1) := by decide +kernel
theorem own_d_method_3_code_116 : decode method_3_code 116 = .ok (.iload_n 1, 1) := by decide +kernel
theorem own_d_method_3_code_117 : decode method_3_code 117 = .ok (.isub, 1) := by decide +kernel
theorem own_d_method_3_code_118 : decode method_3_code 118 = .ok (.iconst 1, 1) := by decide +kernel
theorem own_d_method_3_code_119 : decode method_3_code 119 = .ok (.isub, 1) := by decide +kernel
theorem own_d_method_3_code_120 : decode method_3_code 120 = .ok (.iload 4, 2) := by decide +kernel
theorem own_d_method_3_code_122 : decode method_3_code 122 = .ok (.if_icmp .ge 5, 3) := by decide +kernel
theorem own_d_method_3_code_125 : decode method_3_code 125 = .ok (.iconst (-1), 1) := by decide +kernel
theorem own_d_method_3_code_126 : decode method_3_code 126 = .ok (.ireturn, 1) := by decide +kernel
theorem own_d_method_3_code_127 : decode method_3_code 127 = .ok (.iload 5, 2) := by decide +kernel
theorem own_d_method_3_code_129 : decode method_3_code 129 = .ok (.aload_n 0, 1) := by decide +kernel
theorem own_d_method_3_code_130 : decode method_3_code 130 = .ok (.iload_n 1, 1) := by decide +kernel
theorem own_d_method_3_code_131 : decode method_3_code 131 = .ok (.iconst 1, 1) := by decide +kernel
theorem own_d_method_3_code_132 : decode method_3_code 132 = .ok (.iadd, 1) := by decide +kernel
theorem own_d_method_3_code_133 : decode method_3_code 133 = .ok (.baload, 1) := by decide +kernel
theorem own_d_method_3_code_134 : decode method_3_code 134 = .ok (.invokestatic 8, 3) := by decide +kernel
theorem own_pd0 : parseMethodDescriptor "(IB)I" = some ⟨[.int, .byte], some .int⟩ := by decide +kernel
theorem own_d_method_3_code_137 : decode method_3_code 137 = .ok (.istore 5, 2) := by decide +kernel
theorem own_d_method_3_code_139 : decode method_3_code 139 = .ok (.iload 5, 2) := by decide +kernel
theorem own_d_method_3_code_141 : decode method_3_code 141 = .ok (.ifCond .ge 5, 3) := by decide +kernel
theorem own_d_method_3_code_144 : decode method_3_code 144 = .ok (.iconst (-1), 1) := by decide +kernel
theorem own_d_method_3_code_145 : decode method_3_code 145 = .ok (.ireturn, 1) := by decide +kernel
theorem own_d_method_3_code_146 : decode method_3_code 146 = .ok (.iload 4, 2) := by decide +kernel
theorem own_d_method_3_code_148 : decode method_3_code 148 = .ok (.iconst 2, 1) := by decide +kernel
theorem own_d_method_3_code_149 : decode method_3_code 149 = .ok (.if_icmp .lt 22, 3) := by decide +kernel
theorem own_d_method_3_code_171 : decode method_3_code 171 = .ok (.iload 4, 2) := by decide +kernel
theorem own_d_method_3_code_173 : decode method_3_code 173 = .ok (.iconst 3, 1) := by decide +kernel
theorem own_d_method_3_code_174 : decode method_3_code 174 = .ok (.if_icmp .lt 22, 3) := by decide +kernel
theorem own_d_method_3_code_196 : decode method_3_code 196 = .ok (.iload 5, 2) := by decide +kernel
theorem own_d_method_3_code_198 : decode method_3_code 198 = .ok (.iload 6, 2) := by decide +kernel
theorem own_d_method_3_code_200 : decode method_3_code 200 = .ok (.if_icmp .lt 24, 3) := by decide +kernel
theorem own_d_method_3_code_224 : decode method_3_code 224 = .ok (.iconst (-1), 1) := by decide +kernel
theorem own_d_method_3_code_225 : decode method_3_code 225 = .ok (.ireturn, 1) := by decide +kernel
theorem own_d_method_3_code_203 : decode method_3_code 203 = .ok (.iload 5, 2) := by decide +kernel
theorem own_d_method_3_code_205 : decode method_3_code 205 = .ok (.ldc 14, 2) := by decide +kernel
theorem own_d_method_3_code_207 : decode method_3_code 207 = .ok (.if_icmp .gt 17, 3) := by decide +kernel
theorem own_d_method_3_code_210 : decode method_3_code 210 = .ok (.iload 5, 2) := by decide +kernel
theorem own_d_method_3_code_212 : decode method_3_code 212 = .ok (.ldc 15, 2) := by decide +kernel
theorem own_d_method_3_code_214 : decode method_3_code 214 = .ok (.if_icmp .lt 12, 3) := by decide +kernel
theorem own_d_method_3_code_226 : decode method_3_code 226 = .ok (.iload_n 1, 1) := by decide +kernel
theorem own_d_method_3_code_227 : decode method_3_code 227 = .ok (.iconst 1, 1) := by decide +kernel
theorem own_d_method_3_code_228 : decode method_3_code 228 = .ok (.iadd, 1) := by decide +kernel
theorem own_d_method_3_code_229 : decode method_3_code 229 = .ok (.iload 4, 2) := by decide +kernel
theorem own_d_method_3_code_231 : decode method_3_code 231 = .ok (.iadd, 1) := by decide +kernel
theorem own_d_method_3_code_232 : decode method_3_code 232 = .ok (.ireturn, 1) := by decide +kernel
theorem own_d_method_3_code_58 : decode method_3_code 58 = .ok (.iload_n 3, 1) := by decide +kernel
theorem own_d_method_3_code_59 : decode method_3_code 59 = .ok (.sipush 240, 3) := by decide +kernel
theorem own_d_method_3_code_62 : decode method_3_code 62 = .ok (.iand, 1) := by decide +kernel
theorem own_d_method_3_code_63 : decode method_3_code 63 = .ok (.sipush 224, 3) := by decide +kernel
theorem own_d_method_3_code_66 : decode method_3_code 66 = .ok (.if_icmp .ne 20, 3) := by decide +kernel
theorem own_d_method_3_code_69 : decode method_3_code 69 = .ok (.iconst 2, 1) := by decide +kernel
theorem own_d_method_3_code_70 : decode method_3_code 70 = .ok (.istore 4, 2) := by decide +kernel
theorem own_d_method_3_code_72 : decode method_3_code 72 = .ok (.iload_n 3, 1) := by decide +kernel
theorem own_d_method_3_code_73 : decode method_3_code 73 = .ok (.bipush 15, 2) := by decide +kernel
theorem own_d_method_3_code_75 : decode method_3_code 75 = .ok (.iand, 1) := by decide +kernel
theorem own_d_method_3_code_76 : decode method_3_code 76 = .ok (.istore 5, 2) := by decide +kernel
theorem own_d_method_3_code_78 : decode method_3_code 78 = .ok (.sipush 2048, 3) := by decide +kernel
theorem own_d_method_3_code_81 : decode method_3_code 81 = .ok (.istore 6, 2) := by decide +kernel
theorem own_d_method_3_code_83 : decode method_3_code 83 = .ok (.goto 32, 3) := by decide +kernel
theorem own_d_method_3_code_152 : decode method_3_code 152 = .ok (.iload 5, 2) := by decide +kernel
theorem own_d_method_3_code_154 : decode method_3_code 154 = .ok (.aload_n 0, 1) := by decide +kernel
theorem own_d_method_3_code_155 : decode method_3_code 155 = .ok (.iload_n 1, 1) := by decide +kernel
theorem own_d_method_3_code_156 : decode method_3_code 156 = .ok (.iconst 2, 1) := by decide +kernel
theorem own_d_method_3_code_157 : decode method_3_code 157 = .ok (.iadd, 1) := by decide +kernel
theorem own_d_method_3_code_158 : decode method_3_code 158 = .ok (.baload, 1) := by decide +kernel
theorem own_d_method_3_code_159 : decode method_3_code 159 = .ok (.invokestatic 8, 3) := by decide +kernel
theorem own_d_method_3_code_162 : decode method_3_code 162 = .ok (.istore 5, 2) := by decide +kernel
theorem own_d_method_3_code_164 : decode method_3_code 164 = .ok (.iload 5, 2) := by decide +kernel
theorem own_d_method_3_code_166 : decode method_3_code 166 = .ok (.ifCond .ge 5, 3) := by decide +kernel
theorem own_d_method_3_code_169 : decode method_3_code 169 = .ok (.iconst (-1), 1) := by decide +kernel
theorem own_d_method_3_code_170 : decode method_3_code 170 = .ok (.ireturn, 1) := by decide +kernel
theorem own_d_method_3_code_217 : decode method_3_code 217 = .ok (.iload 5, 2) := by decide +kernel
theorem own_d_method_3_code_219 : decode method_3_code 219 = .ok (.ldc 16, 2) := by decide +kernel
theorem own_d_method_3_code_221 : decode method_3_code 221 = .ok (.if_icmp .gt 5, 3) := by decide +kernel
theorem own_d_method_3_code_86 : decode method_3_code 86 = .ok (.iload_n 3, 1) := by decide +kernel
theorem own_d_method_3_code_87 : decode method_3_code 87 = .ok (.sipush 248, 3) := by decide +kernel
theorem own_d_method_3_code_90 : decode method_3_code 90 = .ok (.iand, 1) := by decide +kernel
theorem own_d_method_3_code_91 : decode method_3_code 91 = .ok (.sipush 240, 3) := by decide +kernel
theorem own_d_method_3_code_94 : decode method_3_code 94 = .ok (.if_icmp .ne 19, 3) := by decide +kernel
theorem own_d_method_3_code_97 : decode method_3_code 97 = .ok (.iconst 3, 1) := by decide +kernel
theorem own_d_method_3_code_98 : decode method_3_code 98 = .ok (.istore 4, 2) := by decide +kernel
theorem own_d_method_3_code_100 : decode method_3_code 100 = .ok (.iload_n 3, 1) := by decide +kernel
theorem own_d_method_3_code_101 : decode method_3_code 101 = .ok (.bipush 7, 2) := by decide +kernel
theorem own_d_method_3_code_103 : decode method_3_code 103 = .ok (.iand, 1) := by decide +kernel
theorem own_d_method_3_code_104 : decode method_3_code 104 = .ok (.istore 5, 2) := by decide +kernel
theorem own_d_method_3_code_106 : decode method_3_code 106 = .ok (.ldc 7, 2) := by decide +kernel
theorem own_d_method_3_code_108 : decode method_3_code 108 = .ok (.istore 6, 2) := by decide +kernel
theorem own_d_method_3_code_110 : decode method_3_code 110 = .ok (.goto 5, 3) := by decide +kernel
theorem own_d_method_3_code_177 : decode method_3_code 177 = .ok (.iload 5, 2) := by decide +kernel
theorem own_d_method_3_code_179 : decode method_3_code 179 = .ok (.aload_n 0, 1) := by decide +kernel
theorem own_d_method_3_code_180 : decode method_3_code 180 = .ok (.iload_n 1, 1) := by decide +kernel
theorem own_d_method_3_code_181 : decode method_3_code 181 = .ok (.iconst 3, 1) := by decide +kernel
theorem own_d_method_3_code_182 : decode method_3_code 182 = .ok (.iadd, 1) := by decide +kernel
theorem own_d_method_3_code_183 : decode method_3_code 183 = .ok (.baload, 1) := by decide +kernel
theorem own_d_method_3_code_184 : decode method_3_code 184 = .ok (.invokestatic 8, 3) := by decide +kernel
theorem own_d_method_3_code_187 : decode method_3_code 187 = .ok (.istore 5, 2) := by decide +kernel
theorem own_d_method_3_code_189 : decode method_3_code 189 = .ok (.iload 5, 2) := by decide +kernel
theorem own_d_method_3_code_191 : decode method_3_code 191 = .ok (.ifCond .ge 5, 3) := by decide +kernel
theorem own_d_method_3_code_194 : decode method_3_code 194 = .ok (.iconst (-1), 1) := by decide +kernel
theorem own_d_method_3_code_195 : decode method_3_code 195 = .ok (.ireturn, 1) := by decide +kernel
theorem own_d_method_3_code_113 : decode method_3_code 113 = .ok (.iconst (-1), 1) := by decide +kernel
theorem own_d_method_3_code_114 : decode method_3_code 114 = .ok (.ireturn, 1) := by decide +kernel
def own_step (y0 : Int32) (y1 : Int32) (y2 : Int32) (y3 : Int32) (y4 : Int32) (y5 : Int32) (i0 : Int32) (to0 : Int32) : Int32 := (if i0 < (0 : Int32) then i0 else (if i0 < to0 then (if ((own_at y0 y1 y2 y3 y4 y5 i0) &&& (255 : Int32)) < (128 : Int32) then (i0 + (1 : Int32)) else (if (((own_at y0 y1 y2 y3 y4 y5 i0) &&& (255 : Int32)) &&& (224 : Int32)) = (192 : Int32) then (if ((to0 - i0) - (1 : Int32)) < (1 : Int32) then (-1 : Int32) else (if (own_more (((own_at y0 y1 y2 y3 y4 y5 i0) &&& (255 : Int32)) &&& (31 : Int32)) (own_at y0 y1 y2 y3 y4 y5 (i0 + (1 : Int32)))) < (0 : Int32) then (-1 : Int32) else (if (own_more (((own_at y0 y1 y2 y3 y4 y5 i0) &&& (255 : Int32)) &&& (31 : Int32)) (own_at y0 y1 y2 y3 y4 y5 (i0 + (1 : Int32)))) < (128 : Int32) then (-1 : Int32) else ((i0 + (1 : Int32)) + (1 : Int32))))) else (if (((own_at y0 y1 y2 y3 y4 y5 i0) &&& (255 : Int32)) &&& (240 : Int32)) = (224 : Int32) then (if ((to0 - i0) - (1 : Int32)) < (2 : Int32) then (-1 : Int32) else (if (own_more (((own_at y0 y1 y2 y3 y4 y5 i0) &&& (255 : Int32)) &&& (15 : Int32)) (own_at y0 y1 y2 y3 y4 y5 (i0 + (1 : Int32)))) < (0 : Int32) then (-1 : Int32) else (if (own_more (own_more (((own_at y0 y1 y2 y3 y4 y5 i0) &&& (255 : Int32)) &&& (15 : Int32)) (own_at y0 y1 y2 y3 y4 y5 (i0 + (1 : Int32)))) (own_at y0 y1 y2 y3 y4 y5 (i0 + (2 : Int32)))) < (0 : Int32) then (-1 : Int32) else (if (own_more (own_more (((own_at y0 y1 y2 y3 y4 y5 i0) &&& (255 : Int32)) &&& (15 : Int32)) (own_at y0 y1 y2 y3 y4 y5 (i0 + (1 : Int32)))) (own_at y0 y1 y2 y3 y4 y5 (i0 + (2 : Int32)))) < (2048 : Int32) then (-1 : Int32) else (if (own_more (own_more (((own_at y0 y1 y2 y3 y4 y5 i0) &&& (255 : Int32)) &&& (15 : Int32)) (own_at y0 y1 y2 y3 y4 y5 (i0 + (1 : Int32)))) (own_at y0 y1 y2 y3 y4 y5 (i0 + (2 : Int32)))) < (55296 : Int32) then ((i0 + (1 : Int32)) + (2 : Int32)) else (if (57343 : Int32) < (own_more (own_more (((own_at y0 y1 y2 y3 y4 y5 i0) &&& (255 : Int32)) &&& (15 : Int32)) (own_at y0 y1 y2 y3 y4 y5 (i0 + (1 : Int32)))) (own_at y0 y1 y2 y3 y4 y5 (i0 + (2 : Int32)))) then ((i0 + (1 : Int32)) + (2 : Int32)) else (-1 : Int32))))))) else (if (((own_at y0 y1 y2 y3 y4 y5 i0) &&& (255 : Int32)) &&& (248 : Int32)) = (240 : Int32) then (if ((to0 - i0) - (1 : Int32)) < (3 : Int32) then (-1 : Int32) else (if (own_more (((own_at y0 y1 y2 y3 y4 y5 i0) &&& (255 : Int32)) &&& (7 : Int32)) (own_at y0 y1 y2 y3 y4 y5 (i0 + (1 : Int32)))) < (0 : Int32) then (-1 : Int32) else (if (own_more (own_more (((own_at y0 y1 y2 y3 y4 y5 i0) &&& (255 : Int32)) &&& (7 : Int32)) (own_at y0 y1 y2 y3 y4 y5 (i0 + (1 : Int32)))) (own_at y0 y1 y2 y3 y4 y5 (i0 + (2 : Int32)))) < (0 : Int32) then (-1 : Int32) else (if (own_more (own_more (own_more (((own_at y0 y1 y2 y3 y4 y5 i0) &&& (255 : Int32)) &&& (7 : Int32)) (own_at y0 y1 y2 y3 y4 y5 (i0 + (1 : Int32)))) (own_at y0 y1 y2 y3 y4 y5 (i0 + (2 : Int32)))) (own_at y0 y1 y2 y3 y4 y5 (i0 + (3 : Int32)))) < (0 : Int32) then (-1 : Int32) else (if (own_more (own_more (own_more (((own_at y0 y1 y2 y3 y4 y5 i0) &&& (255 : Int32)) &&& (7 : Int32)) (own_at y0 y1 y2 y3 y4 y5 (i0 + (1 : Int32)))) (own_at y0 y1 y2 y3 y4 y5 (i0 + (2 : Int32)))) (own_at y0 y1 y2 y3 y4 y5 (i0 + (3 : Int32)))) < (65536 : Int32) then (-1 : Int32) else (if (1114111 : Int32) < (own_more (own_more (own_more (((own_at y0 y1 y2 y3 y4 y5 i0) &&& (255 : Int32)) &&& (7 : Int32)) (own_at y0 y1 y2 y3 y4 y5 (i0 + (1 : Int32)))) (own_at y0 y1 y2 y3 y4 y5 (i0 + (2 : Int32)))) (own_at y0 y1 y2 y3 y4 y5 (i0 + (3 : Int32)))) then (-1 : Int32) else ((i0 + (1 : Int32)) + (3 : Int32)))))))) else (-1 : Int32))))) else i0))
def Q_step (Z : State) (y0 : Int32) (y1 : Int32) (y2 : Int32) (y3 : Int32) (y4 : Int32) (y5 : Int32) (i0 : Int32) (to0 : Int32) (h0 : Heap) (n0 : Nat) (v : Option Value) (h : Heap) (L : List Loc) : Prop := v = some (.int (own_step y0 y1 y2 y3 y4 y5 i0 to0)) ∧ Fr n0 L ∧ h = h0
set_option maxRecDepth 65536 in
set_option maxHeartbeats 40000000 in
theorem rm_step (l : Launch) (Z : State) (a0 : Array Value) (hw : ∀ d ∈ tables_1, d.before a0 Z = true) (ws : List Jvm.Cond) (a : Addr) (k : ClassId) (y0 : Int32) (y1 : Int32) (y2 : Int32) (y3 : Int32) (y4 : Int32) (y5 : Int32) (i0 : Int32) (to0 : Int32) (h0 : Heap) (n0 : Nat) (Z0 : n0 ≤ h0.size) (V : Arv Z h0 a k .byte 6 [(.int y0), (.int y1), (.int y2), (.int y3), (.int y4), (.int y5)] (.int (0 : Int32))) (hto : to0.toInt ≤ 6) :
    MetFree l (⟨"com/example/entryway/entryway/format/SourceWellFormedUtf8PinLaw", "step", "([BII)I"⟩ : MethodName) (head1 (Jvm.Cond.code (⟨"com/example/entryway/entryway/format/SourceWellFormedUtf8PinLaw", "step", "([BII)I"⟩ : MethodName) method_3_code 7 (some .int) :: ws) ({ frames := 1, cells := 0, slots := 0, locals := 14 } : Room)) (fun aA U => aA = #[(.ref a), (.int i0), (.int to0)] ∧ Z.Warmed39 U.vm ∧ U.heap = h0) (fun _ _ _ _ _ => True) (fun _ U o U' => ∃ v L, o = .returned v ∧ Q_step Z y0 y1 y2 y3 y4 y5 i0 to0 h0 n0 v U'.heap L ∧ FrameEnd U o U' L ({ frames := 1, cells := 0, slots := 0, locals := 14 } : Room).cells ({ frames := 1, cells := 0, slots := 0, locals := 14 } : Room).slots) := by
  refine MetFree.of_bodySF (plainFor_of_name own_pn_com_example_entryway_entryway_format_SourceWellFormedUtf8PinLaw) hisR ?_
  intro p e s m args below meth c s₁ Bd hml0 hP hK
  obtain ⟨rfl, hZ, hh⟩ := hP
  have hx := Bd.exec
  have hby := Bd.bytes
  have hlk : meth.locks = false := BodyLoose.notSynchronized Bd
  have hml : c.maxLocals = 7 := hml0
  have hown : s.vm.findClass "com/example/entryway/entryway/format/SourceWellFormedUtf8PinLaw" = some m.cls := findClass_of_methodNamed Bd.named
  have hnm := (name_of_methodNamed Bd.named Bd.method).1
  have X0 : Stand p l e ({ frames := 1, cells := 0, slots := 0, locals := 14 } : Room) s m #[(.ref a), (.int i0), (.int to0)] below meth c s₁ [] 0 0 := Stand.of_body Bd
  have e0 : s₁.heap = h0 := by rw [← hh, Bd.state]; rfl
  have N0 := Fr.nil n0
  show own_Go p e below (own_K s (Q_step Z y0 y1 y2 y3 y4 y5 i0 to0 h0 n0) ({ frames := 1, cells := 0, slots := 0, locals := 14 } : Room).cells ({ frames := 1, cells := 0, slots := 0, locals := 14 } : Room).slots) (s₁.setTop (entryFrame m #[(.ref a), (.int i0), (.int to0)] 7))
  rw [(by first | (simp [entryFrame, mkF, argsToLocals, Value.category]; done) | rfl : entryFrame m #[(.ref a), (.int i0), (.int to0)] 7 = mkF m 0 #[.val (.ref a), .val (.int i0), .val (.int to0), .unset, .unset, .unset, .unset] [])]
  show own_Go p e below _ (s₁.setTop (mkF m 0 #[.val (.ref a), .val (.int i0), .val (.int to0), .unset, .unset, .unset, .unset] []))
  refine own_go (fun _ hr => XS.iloadN X0.here hx rfl (hb hby own_d_method_3_code_0) rfl hr) ?_
  show own_Go p e below _ (s₁.setTop (mkF m 1 #[.val (.ref a), .val (.int i0), .val (.int to0), .unset, .unset, .unset, .unset] [(.int i0)]))
  rcases Classical.em (i0 < (0 : Int32)) with c1 | c1
  · skip
    refine own_go (fun _ hr => XS.ifYes X0.here hx rfl (pc0 := 1) (pc' := 9) rfl (hb hby own_d_method_3_code_1) rfl ((if0 _ _).trans (tlt c1).1) (by decide) (by decide) hr) ?_
    show own_Go p e below _ (s₁.setTop (mkF m 9 #[.val (.ref a), .val (.int i0), .val (.int to0), .unset, .unset, .unset, .unset] []))
    refine own_go (fun _ hr => XS.iloadN X0.here hx rfl (hb hby own_d_method_3_code_9) rfl hr) ?_
    show own_Go p e below _ (s₁.setTop (mkF m 10 #[.val (.ref a), .val (.int i0), .val (.int to0), .unset, .unset, .unset, .unset] [(.int i0)]))
    exact own_retI X0 hx hlk Bd.returns (hb hby own_d_method_3_code_10) (by decide) (by decide) ⟨(congrArg (fun q => some (Value.int q)) (show i0 = own_step y0 y1 y2 y3 y4 y5 i0 to0 from Eq.symm (by unfold own_step; rw [if_pos c1]))), N0, e0⟩
  refine own_go (fun _ hr => XS.ifNo X0.here hx rfl (hb hby own_d_method_3_code_1) rfl ((if0 _ _).trans (flt c1).1) hr) ?_
  show own_Go p e below _ (s₁.setTop (mkF m 4 #[.val (.ref a), .val (.int i0), .val (.int to0), .unset, .unset, .unset, .unset] []))
  refine own_go (fun _ hr => XS.iloadN X0.here hx rfl (hb hby own_d_method_3_code_4) rfl (XS.iloadN X0.here hx rfl (hb hby own_d_method_3_code_5) rfl hr)) ?_
  show own_Go p e below _ (s₁.setTop (mkF m 6 #[.val (.ref a), .val (.int i0), .val (.int to0), .unset, .unset, .unset, .unset] [(.int to0), (.int i0)]))
  rcases Classical.em (i0 < to0) with c2 | c2
  · skip
    refine own_go (fun _ hr => XS.icmpYes X0.here hx rfl (pc0 := 6) (pc' := 11) rfl (hb hby own_d_method_3_code_6) rfl (tlt c2).1 (by decide) (by decide) hr) ?_
    show own_Go p e below _ (s₁.setTop (mkF m 11 #[.val (.ref a), .val (.int i0), .val (.int to0), .unset, .unset, .unset, .unset] []))
    refine own_go (fun _ hr => XS.aloadN X0.here hx rfl (hb hby own_d_method_3_code_11) rfl rfl (XS.iloadN X0.here hx rfl (hb hby own_d_method_3_code_12) rfl (own_baload X0 hx hZ e0 V i0 (.int (own_at y0 y1 y2 y3 y4 y5 i0)) (own_in0 c1 c2 hto) (own_get y0 y1 y2 y3 y4 y5 _ (own_in0 c1 c2 hto)) rfl rfl (hb hby own_d_method_3_code_13) (XS.sipush X0.here hx rfl (hb hby own_d_method_3_code_14) (XS.iand X0.here hx rfl (hb hby own_d_method_3_code_17) rfl (XS.istoreN X0.here hx rfl (hb hby own_d_method_3_code_18) rfl (l' := #[.val (.ref a), .val (.int i0), .val (.int to0), .val (.int ((own_at y0 y1 y2 y3 y4 y5 i0) &&& (255 : Int32))), .unset, .unset, .unset]) rfl (XS.iloadN X0.here hx rfl (hb hby own_d_method_3_code_19) rfl (XS.sipush X0.here hx rfl (hb hby own_d_method_3_code_20) hr)))))))) ?_
    show own_Go p e below _ (s₁.setTop (mkF m 23 #[.val (.ref a), .val (.int i0), .val (.int to0), .val (.int ((own_at y0 y1 y2 y3 y4 y5 i0) &&& (255 : Int32))), .unset, .unset, .unset] [(.int (128 : Int32)), (.int ((own_at y0 y1 y2 y3 y4 y5 i0) &&& (255 : Int32)))]))
    rcases Classical.em (((own_at y0 y1 y2 y3 y4 y5 i0) &&& (255 : Int32)) < (128 : Int32)) with c3 | c3
    · skip
      refine own_go (fun _ hr => XS.icmpNo X0.here hx rfl (hb hby own_d_method_3_code_23) rfl (tlt c3).2.1 hr) ?_
      show own_Go p e below _ (s₁.setTop (mkF m 26 #[.val (.ref a), .val (.int i0), .val (.int to0), .val (.int ((own_at y0 y1 y2 y3 y4 y5 i0) &&& (255 : Int32))), .unset, .unset, .unset] []))
      refine own_go (fun _ hr => XS.iloadN X0.here hx rfl (hb hby own_d_method_3_code_26) rfl (XS.iconst X0.here hx rfl (hb hby own_d_method_3_code_27) (XS.iadd X0.here hx rfl (hb hby own_d_method_3_code_28) rfl hr))) ?_
      show own_Go p e below _ (s₁.setTop (mkF m 29 #[.val (.ref a), .val (.int i0), .val (.int to0), .val (.int ((own_at y0 y1 y2 y3 y4 y5 i0) &&& (255 : Int32))), .unset, .unset, .unset] [(.int (i0 + (1 : Int32)))]))
      exact own_retI X0 hx hlk Bd.returns (hb hby own_d_method_3_code_29) (by decide) (by decide) ⟨(congrArg (fun q => some (Value.int q)) (show (i0 + (1 : Int32)) = own_step y0 y1 y2 y3 y4 y5 i0 to0 from Eq.symm (by unfold own_step; rw [if_neg c1, if_pos c2, if_pos c3]))), N0, e0⟩
    refine own_go (fun _ hr => XS.icmpYes X0.here hx rfl (pc0 := 23) (pc' := 30) rfl (hb hby own_d_method_3_code_23) rfl (flt c3).2.1 (by decide) (by decide) hr) ?_
    show own_Go p e below _ (s₁.setTop (mkF m 30 #[.val (.ref a), .val (.int i0), .val (.int to0), .val (.int ((own_at y0 y1 y2 y3 y4 y5 i0) &&& (255 : Int32))), .unset, .unset, .unset] []))
    refine own_go (fun _ hr => XS.iloadN X0.here hx rfl (hb hby own_d_method_3_code_30) rfl (XS.sipush X0.here hx rfl (hb hby own_d_method_3_code_31) (XS.iand X0.here hx rfl (hb hby own_d_method_3_code_34) rfl (XS.sipush X0.here hx rfl (hb hby own_d_method_3_code_35) hr)))) ?_
    show own_Go p e below _ (s₁.setTop (mkF m 38 #[.val (.ref a), .val (.int i0), .val (.int to0), .val (.int ((own_at y0 y1 y2 y3 y4 y5 i0) &&& (255 : Int32))), .unset, .unset, .unset] [(.int (192 : Int32)), (.int (((own_at y0 y1 y2 y3 y4 y5 i0) &&& (255 : Int32)) &&& (224 : Int32)))]))
    rcases Classical.em ((((own_at y0 y1 y2 y3 y4 y5 i0) &&& (255 : Int32)) &&& (224 : Int32)) = (192 : Int32)) with c4 | c4
    · skip
      refine own_go (fun _ hr => XS.icmpNo X0.here hx rfl (hb hby own_d_method_3_code_38) rfl (teq c4).2 hr) ?_
      show own_Go p e below _ (s₁.setTop (mkF m 41 #[.val (.ref a), .val (.int i0), .val (.int to0), .val (.int ((own_at y0 y1 y2 y3 y4 y5 i0) &&& (255 : Int32))), .unset, .unset, .unset] []))
      refine own_go (fun _ hr => XS.iconst X0.here hx rfl (hb hby own_d_method_3_code_41) (XS.istore X0.here hx rfl (hb hby own_d_method_3_code_42) rfl (l' := #[.val (.ref a), .val (.int i0), .val (.int to0), .val (.int ((own_at y0 y1 y2 y3 y4 y5 i0) &&& (255 : Int32))), .val (.int (1 : Int32)), .unset, .unset]) rfl (XS.iloadN X0.here hx rfl (hb hby own_d_method_3_code_44) rfl (XS.bipush X0.here hx rfl (hb hby own_d_method_3_code_45) (XS.iand X0.here hx rfl (hb hby own_d_method_3_code_47) rfl (XS.istore X0.here hx rfl (hb hby own_d_method_3_code_48) rfl (l' := #[.val (.ref a), .val (.int i0), .val (.int to0), .val (.int ((own_at y0 y1 y2 y3 y4 y5 i0) &&& (255 : Int32))), .val (.int (1 : Int32)), .val (.int (((own_at y0 y1 y2 y3 y4 y5 i0) &&& (255 : Int32)) &&& (31 : Int32))), .unset]) rfl (XS.sipush X0.here hx rfl (hb hby own_d_method_3_code_50) (XS.istore X0.here hx rfl (hb hby own_d_method_3_code_53) rfl (l' := #[.val (.ref a), .val (.int i0), .val (.int to0), .val (.int ((own_at y0 y1 y2 y3 y4 y5 i0) &&& (255 : Int32))), .val (.int (1 : Int32)), .val (.int (((own_at y0 y1 y2 y3 y4 y5 i0) &&& (255 : Int32)) &&& (31 : Int32))), .val (.int (128 : Int32))]) rfl (XS.goto X0.here hx rfl (pc0 := 55) (pc' := 115) rfl (hb hby own_d_method_3_code_55) (by decide) (by decide) (XS.iloadN X0.here hx rfl (hb hby own_d_method_3_code_115) rfl hr)))))))))) ?_
      show own_Go p e below _ (s₁.setTop (mkF m 116 #[.val (.ref a), .val (.int i0), .val (.int to0), .val (.int ((own_at y0 y1 y2 y3 y4 y5 i0) &&& (255 : Int32))), .val (.int (1 : Int32)), .val (.int (((own_at y0 y1 y2 y3 y4 y5 i0) &&& (255 : Int32)) &&& (31 : Int32))), .val (.int (128 : Int32))] [(.int to0)]))
      refine own_go (fun _ hr => XS.iloadN X0.here hx rfl (hb hby own_d_method_3_code_116) rfl (XS.isub X0.here hx rfl (hb hby own_d_method_3_code_117) rfl (XS.iconst X0.here hx rfl (hb hby own_d_method_3_code_118) (XS.isub X0.here hx rfl (hb hby own_d_method_3_code_119) rfl (XS.iload X0.here hx rfl (hb hby own_d_method_3_code_120) rfl hr))))) ?_
      show own_Go p e below _ (s₁.setTop (mkF m 122 #[.val (.ref a), .val (.int i0), .val (.int to0), .val (.int ((own_at y0 y1 y2 y3 y4 y5 i0) &&& (255 : Int32))), .val (.int (1 : Int32)), .val (.int (((own_at y0 y1 y2 y3 y4 y5 i0) &&& (255 : Int32)) &&& (31 : Int32))), .val (.int (128 : Int32))] [(.int (1 : Int32)), (.int ((to0 - i0) - (1 : Int32)))]))
      rcases Classical.em (((to0 - i0) - (1 : Int32)) < (1 : Int32)) with c5 | c5
      · skip
        refine own_go (fun _ hr => XS.icmpNo X0.here hx rfl (hb hby own_d_method_3_code_122) rfl (tlt c5).2.1 hr) ?_
        show own_Go p e below _ (s₁.setTop (mkF m 125 #[.val (.ref a), .val (.int i0), .val (.int to0), .val (.int ((own_at y0 y1 y2 y3 y4 y5 i0) &&& (255 : Int32))), .val (.int (1 : Int32)), .val (.int (((own_at y0 y1 y2 y3 y4 y5 i0) &&& (255 : Int32)) &&& (31 : Int32))), .val (.int (128 : Int32))] []))
        refine own_go (fun _ hr => XS.iconst X0.here hx rfl (hb hby own_d_method_3_code_125) hr) ?_
        show own_Go p e below _ (s₁.setTop (mkF m 126 #[.val (.ref a), .val (.int i0), .val (.int to0), .val (.int ((own_at y0 y1 y2 y3 y4 y5 i0) &&& (255 : Int32))), .val (.int (1 : Int32)), .val (.int (((own_at y0 y1 y2 y3 y4 y5 i0) &&& (255 : Int32)) &&& (31 : Int32))), .val (.int (128 : Int32))] [(.int (-1 : Int32))]))
        exact own_retI X0 hx hlk Bd.returns (hb hby own_d_method_3_code_126) (by decide) (by decide) ⟨(congrArg (fun q => some (Value.int q)) (show (-1 : Int32) = own_step y0 y1 y2 y3 y4 y5 i0 to0 from Eq.symm (by unfold own_step; rw [if_neg c1, if_pos c2, if_neg c3, if_pos c4, if_pos c5]))), N0, e0⟩
      refine own_go (fun _ hr => XS.icmpYes X0.here hx rfl (pc0 := 122) (pc' := 127) rfl (hb hby own_d_method_3_code_122) rfl (flt c5).2.1 (by decide) (by decide) hr) ?_
      show own_Go p e below _ (s₁.setTop (mkF m 127 #[.val (.ref a), .val (.int i0), .val (.int to0), .val (.int ((own_at y0 y1 y2 y3 y4 y5 i0) &&& (255 : Int32))), .val (.int (1 : Int32)), .val (.int (((own_at y0 y1 y2 y3 y4 y5 i0) &&& (255 : Int32)) &&& (31 : Int32))), .val (.int (128 : Int32))] []))
      refine own_go (fun _ hr => XS.iload X0.here hx rfl (hb hby own_d_method_3_code_127) rfl (XS.aloadN X0.here hx rfl (hb hby own_d_method_3_code_129) rfl rfl (XS.iloadN X0.here hx rfl (hb hby own_d_method_3_code_130) rfl (XS.iconst X0.here hx rfl (hb hby own_d_method_3_code_131) (XS.iadd X0.here hx rfl (hb hby own_d_method_3_code_132) rfl (own_baload X0 hx hZ e0 V (i0 + (1 : Int32)) (.int (own_at y0 y1 y2 y3 y4 y5 (i0 + (1 : Int32)))) (own_ink c1 c2 hto c5 (by decide)) (own_get y0 y1 y2 y3 y4 y5 _ (own_ink c1 c2 hto c5 (by decide))) rfl rfl (hb hby own_d_method_3_code_133) hr)))))) ?_
      show own_Go p e below _ (s₁.setTop (mkF m 134 #[.val (.ref a), .val (.int i0), .val (.int to0), .val (.int ((own_at y0 y1 y2 y3 y4 y5 i0) &&& (255 : Int32))), .val (.int (1 : Int32)), .val (.int (((own_at y0 y1 y2 y3 y4 y5 i0) &&& (255 : Int32)) &&& (31 : Int32))), .val (.int (128 : Int32))] [(.int (own_at y0 y1 y2 y3 y4 y5 (i0 + (1 : Int32)))), (.int (((own_at y0 y1 y2 y3 y4 y5 i0) &&& (255 : Int32)) &&& (31 : Int32)))]))
      refine own_cs X0 hx hZ hown (hw _ (own_m 16 rfl)) (hw _ (own_m 17 rfl)) (hw _ (own_m 10 rfl)) (hw _ (own_m 18 rfl)) (by decide) (rm := { frames := 0, cells := 0, slots := 0, locals := 0 }) (rm_more l Z a0 hw [] (((own_at y0 y1 y2 y3 y4 y5 i0) &&& (255 : Int32)) &&& (31 : Int32)) (own_at y0 y1 y2 y3 y4 y5 (i0 + (1 : Int32))) h0 n0 Z0 ) (by decide) (W := 0) (by decide) (by decide) (by decide) e0 (by rw [hml]; rfl) (argsL := [(.int (((own_at y0 y1 y2 y3 y4 y5 i0) &&& (255 : Int32)) &&& (31 : Int32))), (.int (own_at y0 y1 y2 y3 y4 y5 (i0 + (1 : Int32))))]) (lenOf own_pd0 rfl) (rest := []) rfl rfl (Nat.le_of_eq rfl) (hb hby own_d_method_3_code_134) ?_
      intro _ T6 L6 X6 hQ6
      obtain ⟨rfl, N6q, e6⟩ := hQ6
      have N6 := Fr.app N0 N6q
      show own_Go p e below _ (T6.setTop (mkF m 137 #[.val (.ref a), .val (.int i0), .val (.int to0), .val (.int ((own_at y0 y1 y2 y3 y4 y5 i0) &&& (255 : Int32))), .val (.int (1 : Int32)), .val (.int (((own_at y0 y1 y2 y3 y4 y5 i0) &&& (255 : Int32)) &&& (31 : Int32))), .val (.int (128 : Int32))] [(.int (own_more (((own_at y0 y1 y2 y3 y4 y5 i0) &&& (255 : Int32)) &&& (31 : Int32)) (own_at y0 y1 y2 y3 y4 y5 (i0 + (1 : Int32)))))]))
      refine own_go (fun _ hr => XS.istore X6.here hx rfl (hb hby own_d_method_3_code_137) rfl (l' := #[.val (.ref a), .val (.int i0), .val (.int to0), .val (.int ((own_at y0 y1 y2 y3 y4 y5 i0) &&& (255 : Int32))), .val (.int (1 : Int32)), .val (.int (own_more (((own_at y0 y1 y2 y3 y4 y5 i0) &&& (255 : Int32)) &&& (31 : Int32)) (own_at y0 y1 y2 y3 y4 y5 (i0 + (1 : Int32))))), .val (.int (128 : Int32))]) rfl (XS.iload X6.here hx rfl (hb hby own_d_method_3_code_139) rfl hr)) ?_
      show own_Go p e below _ (T6.setTop (mkF m 141 #[.val (.ref a), .val (.int i0), .val (.int to0), .val (.int ((own_at y0 y1 y2 y3 y4 y5 i0) &&& (255 : Int32))), .val (.int (1 : Int32)), .val (.int (own_more (((own_at y0 y1 y2 y3 y4 y5 i0) &&& (255 : Int32)) &&& (31 : Int32)) (own_at y0 y1 y2 y3 y4 y5 (i0 + (1 : Int32))))), .val (.int (128 : Int32))] [(.int (own_more (((own_at y0 y1 y2 y3 y4 y5 i0) &&& (255 : Int32)) &&& (31 : Int32)) (own_at y0 y1 y2 y3 y4 y5 (i0 + (1 : Int32)))))]))
      rcases Classical.em ((own_more (((own_at y0 y1 y2 y3 y4 y5 i0) &&& (255 : Int32)) &&& (31 : Int32)) (own_at y0 y1 y2 y3 y4 y5 (i0 + (1 : Int32)))) < (0 : Int32)) with c7 | c7
      · skip
        refine own_go (fun _ hr => XS.ifNo X6.here hx rfl (hb hby own_d_method_3_code_141) rfl ((if0 _ _).trans (tlt c7).2.1) hr) ?_
        show own_Go p e below _ (T6.setTop (mkF m 144 #[.val (.ref a), .val (.int i0), .val (.int to0), .val (.int ((own_at y0 y1 y2 y3 y4 y5 i0) &&& (255 : Int32))), .val (.int (1 : Int32)), .val (.int (own_more (((own_at y0 y1 y2 y3 y4 y5 i0) &&& (255 : Int32)) &&& (31 : Int32)) (own_at y0 y1 y2 y3 y4 y5 (i0 + (1 : Int32))))), .val (.int (128 : Int32))] []))
        refine own_go (fun _ hr => XS.iconst X6.here hx rfl (hb hby own_d_method_3_code_144) hr) ?_
        show own_Go p e below _ (T6.setTop (mkF m 145 #[.val (.ref a), .val (.int i0), .val (.int to0), .val (.int ((own_at y0 y1 y2 y3 y4 y5 i0) &&& (255 : Int32))), .val (.int (1 : Int32)), .val (.int (own_more (((own_at y0 y1 y2 y3 y4 y5 i0) &&& (255 : Int32)) &&& (31 : Int32)) (own_at y0 y1 y2 y3 y4 y5 (i0 + (1 : Int32))))), .val (.int (128 : Int32))] [(.int (-1 : Int32))]))
        exact own_retI X6 hx hlk Bd.returns (hb hby own_d_method_3_code_145) (by decide) (by decide) ⟨(congrArg (fun q => some (Value.int q)) (show (-1 : Int32) = own_step y0 y1 y2 y3 y4 y5 i0 to0 from Eq.symm (by unfold own_step; rw [if_neg c1, if_pos c2, if_neg c3, if_pos c4, if_neg c5, if_pos c7]))), N6, e6⟩
      refine own_go (fun _ hr => XS.ifYes X6.here hx rfl (pc0 := 141) (pc' := 146) rfl (hb hby own_d_method_3_code_141) rfl ((if0 _ _).trans (flt c7).2.1) (by decide) (by decide) hr) ?_
      show own_Go p e below _ (T6.setTop (mkF m 146 #[.val (.ref a), .val (.int i0), .val (.int to0), .val (.int ((own_at y0 y1 y2 y3 y4 y5 i0) &&& (255 : Int32))), .val (.int (1 : Int32)), .val (.int (own_more (((own_at y0 y1 y2 y3 y4 y5 i0) &&& (255 : Int32)) &&& (31 : Int32)) (own_at y0 y1 y2 y3 y4 y5 (i0 + (1 : Int32))))), .val (.int (128 : Int32))] []))
      refine own_go (fun _ hr => XS.iload X6.here hx rfl (hb hby own_d_method_3_code_146) rfl (XS.iconst X6.here hx rfl (hb hby own_d_method_3_code_148) (XS.icmpYes X6.here hx rfl (pc0 := 149) (pc' := 171) rfl (hb hby own_d_method_3_code_149) rfl (tlt (by decide)).1 (by decide) (by decide) (XS.iload X6.here hx rfl (hb hby own_d_method_3_code_171) rfl (XS.iconst X6.here hx rfl (hb hby own_d_method_3_code_173) (XS.icmpYes X6.here hx rfl (pc0 := 174) (pc' := 196) rfl (hb hby own_d_method_3_code_174) rfl (tlt (by decide)).1 (by decide) (by decide) (XS.iload X6.here hx rfl (hb hby own_d_method_3_code_196) rfl (XS.iload X6.here hx rfl (hb hby own_d_method_3_code_198) rfl hr)))))))) ?_
      show own_Go p e below _ (T6.setTop (mkF m 200 #[.val (.ref a), .val (.int i0), .val (.int to0), .val (.int ((own_at y0 y1 y2 y3 y4 y5 i0) &&& (255 : Int32))), .val (.int (1 : Int32)), .val (.int (own_more (((own_at y0 y1 y2 y3 y4 y5 i0) &&& (255 : Int32)) &&& (31 : Int32)) (own_at y0 y1 y2 y3 y4 y5 (i0 + (1 : Int32))))), .val (.int (128 : Int32))] [(.int (128 : Int32)), (.int (own_more (((own_at y0 y1 y2 y3 y4 y5 i0) &&& (255 : Int32)) &&& (31 : Int32)) (own_at y0 y1 y2 y3 y4 y5 (i0 + (1 : Int32)))))]))
      rcases Classical.em ((own_more (((own_at y0 y1 y2 y3 y4 y5 i0) &&& (255 : Int32)) &&& (31 : Int32)) (own_at y0 y1 y2 y3 y4 y5 (i0 + (1 : Int32)))) < (128 : Int32)) with c8 | c8
      · skip
        refine own_go (fun _ hr => XS.icmpYes X6.here hx rfl (pc0 := 200) (pc' := 224) rfl (hb hby own_d_method_3_code_200) rfl (tlt c8).1 (by decide) (by decide) hr) ?_
        show own_Go p e below _ (T6.setTop (mkF m 224 #[.val (.ref a), .val (.int i0), .val (.int to0), .val (.int ((own_at y0 y1 y2 y3 y4 y5 i0) &&& (255 : Int32))), .val (.int (1 : Int32)), .val (.int (own_more (((own_at y0 y1 y2 y3 y4 y5 i0) &&& (255 : Int32)) &&& (31 : Int32)) (own_at y0 y1 y2 y3 y4 y5 (i0 + (1 : Int32))))), .val (.int (128 : Int32))] []))
        refine own_go (fun _ hr => XS.iconst X6.here hx rfl (hb hby own_d_method_3_code_224) hr) ?_
        show own_Go p e below _ (T6.setTop (mkF m 225 #[.val (.ref a), .val (.int i0), .val (.int to0), .val (.int ((own_at y0 y1 y2 y3 y4 y5 i0) &&& (255 : Int32))), .val (.int (1 : Int32)), .val (.int (own_more (((own_at y0 y1 y2 y3 y4 y5 i0) &&& (255 : Int32)) &&& (31 : Int32)) (own_at y0 y1 y2 y3 y4 y5 (i0 + (1 : Int32))))), .val (.int (128 : Int32))] [(.int (-1 : Int32))]))
        exact own_retI X6 hx hlk Bd.returns (hb hby own_d_method_3_code_225) (by decide) (by decide) ⟨(congrArg (fun q => some (Value.int q)) (show (-1 : Int32) = own_step y0 y1 y2 y3 y4 y5 i0 to0 from Eq.symm (by unfold own_step; rw [if_neg c1, if_pos c2, if_neg c3, if_pos c4, if_neg c5, if_neg c7, if_pos c8]))), N6, e6⟩
      refine own_go (fun _ hr => XS.icmpNo X6.here hx rfl (hb hby own_d_method_3_code_200) rfl (flt c8).1 hr) ?_
      show own_Go p e below _ (T6.setTop (mkF m 203 #[.val (.ref a), .val (.int i0), .val (.int to0), .val (.int ((own_at y0 y1 y2 y3 y4 y5 i0) &&& (255 : Int32))), .val (.int (1 : Int32)), .val (.int (own_more (((own_at y0 y1 y2 y3 y4 y5 i0) &&& (255 : Int32)) &&& (31 : Int32)) (own_at y0 y1 y2 y3 y4 y5 (i0 + (1 : Int32))))), .val (.int (128 : Int32))] []))
      refine own_go (fun _ hr => XS.iload X6.here hx rfl (hb hby own_d_method_3_code_203) rfl hr) ?_
      show own_Go p e below _ (T6.setTop (mkF m 205 #[.val (.ref a), .val (.int i0), .val (.int to0), .val (.int ((own_at y0 y1 y2 y3 y4 y5 i0) &&& (255 : Int32))), .val (.int (1 : Int32)), .val (.int (own_more (((own_at y0 y1 y2 y3 y4 y5 i0) &&& (255 : Int32)) &&& (31 : Int32)) (own_at y0 y1 y2 y3 y4 y5 (i0 + (1 : Int32))))), .val (.int (128 : Int32))] [(.int (own_more (((own_at y0 y1 y2 y3 y4 y5 i0) &&& (255 : Int32)) &&& (31 : Int32)) (own_at y0 y1 y2 y3 y4 y5 (i0 + (1 : Int32)))))]))
      refine own_go (X6.ldcInt hx hown (mvT hZ (hw _ (own_m 20 rfl))) rfl (hb hby own_d_method_3_code_205)) ?_
      show own_Go p e below _ (T6.setTop (mkF m 207 #[.val (.ref a), .val (.int i0), .val (.int to0), .val (.int ((own_at y0 y1 y2 y3 y4 y5 i0) &&& (255 : Int32))), .val (.int (1 : Int32)), .val (.int (own_more (((own_at y0 y1 y2 y3 y4 y5 i0) &&& (255 : Int32)) &&& (31 : Int32)) (own_at y0 y1 y2 y3 y4 y5 (i0 + (1 : Int32))))), .val (.int (128 : Int32))] [(.int (1114111 : Int32)), (.int (own_more (((own_at y0 y1 y2 y3 y4 y5 i0) &&& (255 : Int32)) &&& (31 : Int32)) (own_at y0 y1 y2 y3 y4 y5 (i0 + (1 : Int32)))))]))
      have c9 : ¬ ((1114111 : Int32) < (own_more (((own_at y0 y1 y2 y3 y4 y5 i0) &&& (255 : Int32)) &&& (31 : Int32)) (own_at y0 y1 y2 y3 y4 y5 (i0 + (1 : Int32))))) := by
        have q0 := rng32 i0
        have q1 := rng32 to0
        have q2 := rng32 y0
        have q3 := rng32 y1
        have q4 := rng32 y2
        have q5 := rng32 y3
        have q6 := rng32 y4
        have q7 := rng32 y5
        have q8 := rng32 (own_at y0 y1 y2 y3 y4 y5 i0)
        have q9 := c_mask (own_at y0 y1 y2 y3 y4 y5 i0) (255 : Int32) 8 (by decide) (by decide)
        have q10 := c_and ((own_at y0 y1 y2 y3 y4 y5 i0) &&& (255 : Int32)) (224 : Int32) (by decide)
        have q11 := c_isub to0 i0
        have q12 := c_isub (to0 - i0) (1 : Int32)
        have q13 := c_mask ((own_at y0 y1 y2 y3 y4 y5 i0) &&& (255 : Int32)) (31 : Int32) 5 (by decide) (by decide)
        have q14 := c_iadd i0 (1 : Int32)
        have q15 := rng32 (own_at y0 y1 y2 y3 y4 y5 (i0 + (1 : Int32)))
        have q16 := own_more_w (((own_at y0 y1 y2 y3 y4 y5 i0) &&& (255 : Int32)) &&& (31 : Int32)) (own_at y0 y1 y2 y3 y4 y5 (i0 + (1 : Int32)))
        have p0 := c1
        have p1 := c2
        have p2 := c3
        have p3 := c4
        have p4 := c5
        have p5 := c7
        have p6 := c8
        simp only [true_implies, Int32.lt_iff_toInt_lt, ← Int32.toInt_inj, Int32.reduceToInt, Int64.lt_iff_toInt_lt, ← Int64.toInt_inj, Int64.reduceToInt] at q0 q1 q2 q3 q4 q5 q6 q7 q8 q9 q10 q11 q12 q13 q14 q15 q16 p0 p1 p2 p3 p4 p5 p6 ⊢
        omega
      refine own_go (fun _ hr => XS.icmpNo X6.here hx rfl (hb hby own_d_method_3_code_207) rfl (flt c9).2.2.1 hr) ?_
      show own_Go p e below _ (T6.setTop (mkF m 210 #[.val (.ref a), .val (.int i0), .val (.int to0), .val (.int ((own_at y0 y1 y2 y3 y4 y5 i0) &&& (255 : Int32))), .val (.int (1 : Int32)), .val (.int (own_more (((own_at y0 y1 y2 y3 y4 y5 i0) &&& (255 : Int32)) &&& (31 : Int32)) (own_at y0 y1 y2 y3 y4 y5 (i0 + (1 : Int32))))), .val (.int (128 : Int32))] []))
      refine own_go (fun _ hr => XS.iload X6.here hx rfl (hb hby own_d_method_3_code_210) rfl hr) ?_
      show own_Go p e below _ (T6.setTop (mkF m 212 #[.val (.ref a), .val (.int i0), .val (.int to0), .val (.int ((own_at y0 y1 y2 y3 y4 y5 i0) &&& (255 : Int32))), .val (.int (1 : Int32)), .val (.int (own_more (((own_at y0 y1 y2 y3 y4 y5 i0) &&& (255 : Int32)) &&& (31 : Int32)) (own_at y0 y1 y2 y3 y4 y5 (i0 + (1 : Int32))))), .val (.int (128 : Int32))] [(.int (own_more (((own_at y0 y1 y2 y3 y4 y5 i0) &&& (255 : Int32)) &&& (31 : Int32)) (own_at y0 y1 y2 y3 y4 y5 (i0 + (1 : Int32)))))]))
      refine own_go (X6.ldcInt hx hown (mvT hZ (hw _ (own_m 21 rfl))) rfl (hb hby own_d_method_3_code_212)) ?_
      show own_Go p e below _ (T6.setTop (mkF m 214 #[.val (.ref a), .val (.int i0), .val (.int to0), .val (.int ((own_at y0 y1 y2 y3 y4 y5 i0) &&& (255 : Int32))), .val (.int (1 : Int32)), .val (.int (own_more (((own_at y0 y1 y2 y3 y4 y5 i0) &&& (255 : Int32)) &&& (31 : Int32)) (own_at y0 y1 y2 y3 y4 y5 (i0 + (1 : Int32))))), .val (.int (128 : Int32))] [(.int (55296 : Int32)), (.int (own_more (((own_at y0 y1 y2 y3 y4 y5 i0) &&& (255 : Int32)) &&& (31 : Int32)) (own_at y0 y1 y2 y3 y4 y5 (i0 + (1 : Int32)))))]))
      have c10 : (own_more (((own_at y0 y1 y2 y3 y4 y5 i0) &&& (255 : Int32)) &&& (31 : Int32)) (own_at y0 y1 y2 y3 y4 y5 (i0 + (1 : Int32)))) < (55296 : Int32) := by
        have q0 := rng32 i0
        have q1 := rng32 to0
        have q2 := rng32 y0
        have q3 := rng32 y1
        have q4 := rng32 y2
        have q5 := rng32 y3
        have q6 := rng32 y4
        have q7 := rng32 y5
        have q8 := rng32 (own_at y0 y1 y2 y3 y4 y5 i0)
        have q9 := c_mask (own_at y0 y1 y2 y3 y4 y5 i0) (255 : Int32) 8 (by decide) (by decide)
        have q10 := c_and ((own_at y0 y1 y2 y3 y4 y5 i0) &&& (255 : Int32)) (224 : Int32) (by decide)
        have q11 := c_isub to0 i0
        have q12 := c_isub (to0 - i0) (1 : Int32)
        have q13 := c_mask ((own_at y0 y1 y2 y3 y4 y5 i0) &&& (255 : Int32)) (31 : Int32) 5 (by decide) (by decide)
        have q14 := c_iadd i0 (1 : Int32)
        have q15 := rng32 (own_at y0 y1 y2 y3 y4 y5 (i0 + (1 : Int32)))
        have q16 := own_more_w (((own_at y0 y1 y2 y3 y4 y5 i0) &&& (255 : Int32)) &&& (31 : Int32)) (own_at y0 y1 y2 y3 y4 y5 (i0 + (1 : Int32)))
        have p0 := c1
        have p1 := c2
        have p2 := c3
        have p3 := c4
        have p4 := c5
        have p5 := c7
        have p6 := c8
        have p7 := c9
        simp only [true_implies, Int32.lt_iff_toInt_lt, ← Int32.toInt_inj, Int32.reduceToInt, Int64.lt_iff_toInt_lt, ← Int64.toInt_inj, Int64.reduceToInt] at q0 q1 q2 q3 q4 q5 q6 q7 q8 q9 q10 q11 q12 q13 q14 q15 q16 p0 p1 p2 p3 p4 p5 p6 p7 ⊢
        omega
      refine own_go (fun _ hr => XS.icmpYes X6.here hx rfl (pc0 := 214) (pc' := 226) rfl (hb hby own_d_method_3_code_214) rfl (tlt c10).1 (by decide) (by decide) hr) ?_
      show own_Go p e below _ (T6.setTop (mkF m 226 #[.val (.ref a), .val (.int i0), .val (.int to0), .val (.int ((own_at y0 y1 y2 y3 y4 y5 i0) &&& (255 : Int32))), .val (.int (1 : Int32)), .val (.int (own_more (((own_at y0 y1 y2 y3 y4 y5 i0) &&& (255 : Int32)) &&& (31 : Int32)) (own_at y0 y1 y2 y3 y4 y5 (i0 + (1 : Int32))))), .val (.int (128 : Int32))] []))
      refine own_go (fun _ hr => XS.iloadN X6.here hx rfl (hb hby own_d_method_3_code_226) rfl (XS.iconst X6.here hx rfl (hb hby own_d_method_3_code_227) (XS.iadd X6.here hx rfl (hb hby own_d_method_3_code_228) rfl (XS.iload X6.here hx rfl (hb hby own_d_method_3_code_229) rfl (XS.iadd X6.here hx rfl (hb hby own_d_method_3_code_231) rfl hr))))) ?_
      show own_Go p e below _ (T6.setTop (mkF m 232 #[.val (.ref a), .val (.int i0), .val (.int to0), .val (.int ((own_at y0 y1 y2 y3 y4 y5 i0) &&& (255 : Int32))), .val (.int (1 : Int32)), .val (.int (own_more (((own_at y0 y1 y2 y3 y4 y5 i0) &&& (255 : Int32)) &&& (31 : Int32)) (own_at y0 y1 y2 y3 y4 y5 (i0 + (1 : Int32))))), .val (.int (128 : Int32))] [(.int ((i0 + (1 : Int32)) + (1 : Int32)))]))
      exact own_retI X6 hx hlk Bd.returns (hb hby own_d_method_3_code_232) (by decide) (by decide) ⟨(congrArg (fun q => some (Value.int q)) (show ((i0 + (1 : Int32)) + (1 : Int32)) = own_step y0 y1 y2 y3 y4 y5 i0 to0 from Eq.symm (by unfold own_step; rw [if_neg c1, if_pos c2, if_neg c3, if_pos c4, if_neg c5, if_neg c7, if_neg c8]))), N6, e6⟩
    refine own_go (fun _ hr => XS.icmpYes X0.here hx rfl (pc0 := 38) (pc' := 58) rfl (hb hby own_d_method_3_code_38) rfl (feq c4).2 (by decide) (by decide) hr) ?_
    show own_Go p e below _ (s₁.setTop (mkF m 58 #[.val (.ref a), .val (.int i0), .val (.int to0), .val (.int ((own_at y0 y1 y2 y3 y4 y5 i0) &&& (255 : Int32))), .unset, .unset, .unset] []))
    refine own_go (fun _ hr => XS.iloadN X0.here hx rfl (hb hby own_d_method_3_code_58) rfl (XS.sipush X0.here hx rfl (hb hby own_d_method_3_code_59) (XS.iand X0.here hx rfl (hb hby own_d_method_3_code_62) rfl (XS.sipush X0.here hx rfl (hb hby own_d_method_3_code_63) hr)))) ?_
    show own_Go p e below _ (s₁.setTop (mkF m 66 #[.val (.ref a), .val (.int i0), .val (.int to0), .val (.int ((own_at y0 y1 y2 y3 y4 y5 i0) &&& (255 : Int32))), .unset, .unset, .unset] [(.int (224 : Int32)), (.int (((own_at y0 y1 y2 y3 y4 y5 i0) &&& (255 : Int32)) &&& (240 : Int32)))]))
    rcases Classical.em ((((own_at y0 y1 y2 y3 y4 y5 i0) &&& (255 : Int32)) &&& (240 : Int32)) = (224 : Int32)) with c11 | c11
    · skip
      refine own_go (fun _ hr => XS.icmpNo X0.here hx rfl (hb hby own_d_method_3_code_66) rfl (teq c11).2 hr) ?_
      show own_Go p e below _ (s₁.setTop (mkF m 69 #[.val (.ref a), .val (.int i0), .val (.int to0), .val (.int ((own_at y0 y1 y2 y3 y4 y5 i0) &&& (255 : Int32))), .unset, .unset, .unset] []))
      refine own_go (fun _ hr => XS.iconst X0.here hx rfl (hb hby own_d_method_3_code_69) (XS.istore X0.here hx rfl (hb hby own_d_method_3_code_70) rfl (l' := #[.val (.ref a), .val (.int i0), .val (.int to0), .val (.int ((own_at y0 y1 y2 y3 y4 y5 i0) &&& (255 : Int32))), .val (.int (2 : Int32)), .unset, .unset]) rfl (XS.iloadN X0.here hx rfl (hb hby own_d_method_3_code_72) rfl (XS.bipush X0.here hx rfl (hb hby own_d_method_3_code_73) (XS.iand X0.here hx rfl (hb hby own_d_method_3_code_75) rfl (XS.istore X0.here hx rfl (hb hby own_d_method_3_code_76) rfl (l' := #[.val (.ref a), .val (.int i0), .val (.int to0), .val (.int ((own_at y0 y1 y2 y3 y4 y5 i0) &&& (255 : Int32))), .val (.int (2 : Int32)), .val (.int (((own_at y0 y1 y2 y3 y4 y5 i0) &&& (255 : Int32)) &&& (15 : Int32))), .unset]) rfl (XS.sipush X0.here hx rfl (hb hby own_d_method_3_code_78) (XS.istore X0.here hx rfl (hb hby own_d_method_3_code_81) rfl (l' := #[.val (.ref a), .val (.int i0), .val (.int to0), .val (.int ((own_at y0 y1 y2 y3 y4 y5 i0) &&& (255 : Int32))), .val (.int (2 : Int32)), .val (.int (((own_at y0 y1 y2 y3 y4 y5 i0) &&& (255 : Int32)) &&& (15 : Int32))), .val (.int (2048 : Int32))]) rfl (XS.goto X0.here hx rfl (pc0 := 83) (pc' := 115) rfl (hb hby own_d_method_3_code_83) (by decide) (by decide) (XS.iloadN X0.here hx rfl (hb hby own_d_method_3_code_115) rfl hr)))))))))) ?_
      show own_Go p e below _ (s₁.setTop (mkF m 116 #[.val (.ref a), .val (.int i0), .val (.int to0), .val (.int ((own_at y0 y1 y2 y3 y4 y5 i0) &&& (255 : Int32))), .val (.int (2 : Int32)), .val (.int (((own_at y0 y1 y2 y3 y4 y5 i0) &&& (255 : Int32)) &&& (15 : Int32))), .val (.int (2048 : Int32))] [(.int to0)]))
      refine own_go (fun _ hr => XS.iloadN X0.here hx rfl (hb hby own_d_method_3_code_116) rfl (XS.isub X0.here hx rfl (hb hby own_d_method_3_code_117) rfl (XS.iconst X0.here hx rfl (hb hby own_d_method_3_code_118) (XS.isub X0.here hx rfl (hb hby own_d_method_3_code_119) rfl (XS.iload X0.here hx rfl (hb hby own_d_method_3_code_120) rfl hr))))) ?_
      show own_Go p e below _ (s₁.setTop (mkF m 122 #[.val (.ref a), .val (.int i0), .val (.int to0), .val (.int ((own_at y0 y1 y2 y3 y4 y5 i0) &&& (255 : Int32))), .val (.int (2 : Int32)), .val (.int (((own_at y0 y1 y2 y3 y4 y5 i0) &&& (255 : Int32)) &&& (15 : Int32))), .val (.int (2048 : Int32))] [(.int (2 : Int32)), (.int ((to0 - i0) - (1 : Int32)))]))
      rcases Classical.em (((to0 - i0) - (1 : Int32)) < (2 : Int32)) with c12 | c12
      · skip
        refine own_go (fun _ hr => XS.icmpNo X0.here hx rfl (hb hby own_d_method_3_code_122) rfl (tlt c12).2.1 hr) ?_
        show own_Go p e below _ (s₁.setTop (mkF m 125 #[.val (.ref a), .val (.int i0), .val (.int to0), .val (.int ((own_at y0 y1 y2 y3 y4 y5 i0) &&& (255 : Int32))), .val (.int (2 : Int32)), .val (.int (((own_at y0 y1 y2 y3 y4 y5 i0) &&& (255 : Int32)) &&& (15 : Int32))), .val (.int (2048 : Int32))] []))
        refine own_go (fun _ hr => XS.iconst X0.here hx rfl (hb hby own_d_method_3_code_125) hr) ?_
        show own_Go p e below _ (s₁.setTop (mkF m 126 #[.val (.ref a), .val (.int i0), .val (.int to0), .val (.int ((own_at y0 y1 y2 y3 y4 y5 i0) &&& (255 : Int32))), .val (.int (2 : Int32)), .val (.int (((own_at y0 y1 y2 y3 y4 y5 i0) &&& (255 : Int32)) &&& (15 : Int32))), .val (.int (2048 : Int32))] [(.int (-1 : Int32))]))
        exact own_retI X0 hx hlk Bd.returns (hb hby own_d_method_3_code_126) (by decide) (by decide) ⟨(congrArg (fun q => some (Value.int q)) (show (-1 : Int32) = own_step y0 y1 y2 y3 y4 y5 i0 to0 from Eq.symm (by unfold own_step; rw [if_neg c1, if_pos c2, if_neg c3, if_neg c4, if_pos c11, if_pos c12]))), N0, e0⟩
      refine own_go (fun _ hr => XS.icmpYes X0.here hx rfl (pc0 := 122) (pc' := 127) rfl (hb hby own_d_method_3_code_122) rfl (flt c12).2.1 (by decide) (by decide) hr) ?_
      show own_Go p e below _ (s₁.setTop (mkF m 127 #[.val (.ref a), .val (.int i0), .val (.int to0), .val (.int ((own_at y0 y1 y2 y3 y4 y5 i0) &&& (255 : Int32))), .val (.int (2 : Int32)), .val (.int (((own_at y0 y1 y2 y3 y4 y5 i0) &&& (255 : Int32)) &&& (15 : Int32))), .val (.int (2048 : Int32))] []))
      refine own_go (fun _ hr => XS.iload X0.here hx rfl (hb hby own_d_method_3_code_127) rfl (XS.aloadN X0.here hx rfl (hb hby own_d_method_3_code_129) rfl rfl (XS.iloadN X0.here hx rfl (hb hby own_d_method_3_code_130) rfl (XS.iconst X0.here hx rfl (hb hby own_d_method_3_code_131) (XS.iadd X0.here hx rfl (hb hby own_d_method_3_code_132) rfl (own_baload X0 hx hZ e0 V (i0 + (1 : Int32)) (.int (own_at y0 y1 y2 y3 y4 y5 (i0 + (1 : Int32)))) (own_ink c1 c2 hto c12 (by decide)) (own_get y0 y1 y2 y3 y4 y5 _ (own_ink c1 c2 hto c12 (by decide))) rfl rfl (hb hby own_d_method_3_code_133) hr)))))) ?_
      show own_Go p e below _ (s₁.setTop (mkF m 134 #[.val (.ref a), .val (.int i0), .val (.int to0), .val (.int ((own_at y0 y1 y2 y3 y4 y5 i0) &&& (255 : Int32))), .val (.int (2 : Int32)), .val (.int (((own_at y0 y1 y2 y3 y4 y5 i0) &&& (255 : Int32)) &&& (15 : Int32))), .val (.int (2048 : Int32))] [(.int (own_at y0 y1 y2 y3 y4 y5 (i0 + (1 : Int32)))), (.int (((own_at y0 y1 y2 y3 y4 y5 i0) &&& (255 : Int32)) &&& (15 : Int32)))]))
      refine own_cs X0 hx hZ hown (hw _ (own_m 16 rfl)) (hw _ (own_m 17 rfl)) (hw _ (own_m 10 rfl)) (hw _ (own_m 18 rfl)) (by decide) (rm := { frames := 0, cells := 0, slots := 0, locals := 0 }) (rm_more l Z a0 hw [] (((own_at y0 y1 y2 y3 y4 y5 i0) &&& (255 : Int32)) &&& (15 : Int32)) (own_at y0 y1 y2 y3 y4 y5 (i0 + (1 : Int32))) h0 n0 Z0 ) (by decide) (W := 0) (by decide) (by decide) (by decide) e0 (by rw [hml]; rfl) (argsL := [(.int (((own_at y0 y1 y2 y3 y4 y5 i0) &&& (255 : Int32)) &&& (15 : Int32))), (.int (own_at y0 y1 y2 y3 y4 y5 (i0 + (1 : Int32))))]) (lenOf own_pd0 rfl) (rest := []) rfl rfl (Nat.le_of_eq rfl) (hb hby own_d_method_3_code_134) ?_
      intro _ T13 L13 X13 hQ13
      obtain ⟨rfl, N13q, e13⟩ := hQ13
      have N13 := Fr.app N0 N13q
      show own_Go p e below _ (T13.setTop (mkF m 137 #[.val (.ref a), .val (.int i0), .val (.int to0), .val (.int ((own_at y0 y1 y2 y3 y4 y5 i0) &&& (255 : Int32))), .val (.int (2 : Int32)), .val (.int (((own_at y0 y1 y2 y3 y4 y5 i0) &&& (255 : Int32)) &&& (15 : Int32))), .val (.int (2048 : Int32))] [(.int (own_more (((own_at y0 y1 y2 y3 y4 y5 i0) &&& (255 : Int32)) &&& (15 : Int32)) (own_at y0 y1 y2 y3 y4 y5 (i0 + (1 : Int32)))))]))
      refine own_go (fun _ hr => XS.istore X13.here hx rfl (hb hby own_d_method_3_code_137) rfl (l' := #[.val (.ref a), .val (.int i0), .val (.int to0), .val (.int ((own_at y0 y1 y2 y3 y4 y5 i0) &&& (255 : Int32))), .val (.int (2 : Int32)), .val (.int (own_more (((own_at y0 y1 y2 y3 y4 y5 i0) &&& (255 : Int32)) &&& (15 : Int32)) (own_at y0 y1 y2 y3 y4 y5 (i0 + (1 : Int32))))), .val (.int (2048 : Int32))]) rfl (XS.iload X13.here hx rfl (hb hby own_d_method_3_code_139) rfl hr)) ?_
      show own_Go p e below _ (T13.setTop (mkF m 141 #[.val (.ref a), .val (.int i0), .val (.int to0), .val (.int ((own_at y0 y1 y2 y3 y4 y5 i0) &&& (255 : Int32))), .val (.int (2 : Int32)), .val (.int (own_more (((own_at y0 y1 y2 y3 y4 y5 i0) &&& (255 : Int32)) &&& (15 : Int32)) (own_at y0 y1 y2 y3 y4 y5 (i0 + (1 : Int32))))), .val (.int (2048 : Int32))] [(.int (own_more (((own_at y0 y1 y2 y3 y4 y5 i0) &&& (255 : Int32)) &&& (15 : Int32)) (own_at y0 y1 y2 y3 y4 y5 (i0 + (1 : Int32)))))]))
      rcases Classical.em ((own_more (((own_at y0 y1 y2 y3 y4 y5 i0) &&& (255 : Int32)) &&& (15 : Int32)) (own_at y0 y1 y2 y3 y4 y5 (i0 + (1 : Int32)))) < (0 : Int32)) with c14 | c14
      · skip
        refine own_go (fun _ hr => XS.ifNo X13.here hx rfl (hb hby own_d_method_3_code_141) rfl ((if0 _ _).trans (tlt c14).2.1) hr) ?_
        show own_Go p e below _ (T13.setTop (mkF m 144 #[.val (.ref a), .val (.int i0), .val (.int to0), .val (.int ((own_at y0 y1 y2 y3 y4 y5 i0) &&& (255 : Int32))), .val (.int (2 : Int32)), .val (.int (own_more (((own_at y0 y1 y2 y3 y4 y5 i0) &&& (255 : Int32)) &&& (15 : Int32)) (own_at y0 y1 y2 y3 y4 y5 (i0 + (1 : Int32))))), .val (.int (2048 : Int32))] []))
        refine own_go (fun _ hr => XS.iconst X13.here hx rfl (hb hby own_d_method_3_code_144) hr) ?_
        show own_Go p e below _ (T13.setTop (mkF m 145 #[.val (.ref a), .val (.int i0), .val (.int to0), .val (.int ((own_at y0 y1 y2 y3 y4 y5 i0) &&& (255 : Int32))), .val (.int (2 : Int32)), .val (.int (own_more (((own_at y0 y1 y2 y3 y4 y5 i0) &&& (255 : Int32)) &&& (15 : Int32)) (own_at y0 y1 y2 y3 y4 y5 (i0 + (1 : Int32))))), .val (.int (2048 : Int32))] [(.int (-1 : Int32))]))
        exact own_retI X13 hx hlk Bd.returns (hb hby own_d_method_3_code_145) (by decide) (by decide) ⟨(congrArg (fun q => some (Value.int q)) (show (-1 : Int32) = own_step y0 y1 y2 y3 y4 y5 i0 to0 from Eq.symm (by unfold own_step; rw [if_neg c1, if_pos c2, if_neg c3, if_neg c4, if_pos c11, if_neg c12, if_pos c14]))), N13, e13⟩
      refine own_go (fun _ hr => XS.ifYes X13.here hx rfl (pc0 := 141) (pc' := 146) rfl (hb hby own_d_method_3_code_141) rfl ((if0 _ _).trans (flt c14).2.1) (by decide) (by decide) hr) ?_
      show own_Go p e below _ (T13.setTop (mkF m 146 #[.val (.ref a), .val (.int i0), .val (.int to0), .val (.int ((own_at y0 y1 y2 y3 y4 y5 i0) &&& (255 : Int32))), .val (.int (2 : Int32)), .val (.int (own_more (((own_at y0 y1 y2 y3 y4 y5 i0) &&& (255 : Int32)) &&& (15 : Int32)) (own_at y0 y1 y2 y3 y4 y5 (i0 + (1 : Int32))))), .val (.int (2048 : Int32))] []))
      refine own_go (fun _ hr => XS.iload X13.here hx rfl (hb hby own_d_method_3_code_146) rfl (XS.iconst X13.here hx rfl (hb hby own_d_method_3_code_148) (XS.icmpNo X13.here hx rfl (hb hby own_d_method_3_code_149) rfl (flt (by decide)).1 (XS.iload X13.here hx rfl (hb hby own_d_method_3_code_152) rfl (XS.aloadN X13.here hx rfl (hb hby own_d_method_3_code_154) rfl rfl (XS.iloadN X13.here hx rfl (hb hby own_d_method_3_code_155) rfl (XS.iconst X13.here hx rfl (hb hby own_d_method_3_code_156) (XS.iadd X13.here hx rfl (hb hby own_d_method_3_code_157) rfl (own_baload X13 hx hZ e13 V (i0 + (2 : Int32)) (.int (own_at y0 y1 y2 y3 y4 y5 (i0 + (2 : Int32)))) (own_ink c1 c2 hto c12 (by decide)) (own_get y0 y1 y2 y3 y4 y5 _ (own_ink c1 c2 hto c12 (by decide))) rfl rfl (hb hby own_d_method_3_code_158) hr))))))))) ?_
      show own_Go p e below _ (T13.setTop (mkF m 159 #[.val (.ref a), .val (.int i0), .val (.int to0), .val (.int ((own_at y0 y1 y2 y3 y4 y5 i0) &&& (255 : Int32))), .val (.int (2 : Int32)), .val (.int (own_more (((own_at y0 y1 y2 y3 y4 y5 i0) &&& (255 : Int32)) &&& (15 : Int32)) (own_at y0 y1 y2 y3 y4 y5 (i0 + (1 : Int32))))), .val (.int (2048 : Int32))] [(.int (own_at y0 y1 y2 y3 y4 y5 (i0 + (2 : Int32)))), (.int (own_more (((own_at y0 y1 y2 y3 y4 y5 i0) &&& (255 : Int32)) &&& (15 : Int32)) (own_at y0 y1 y2 y3 y4 y5 (i0 + (1 : Int32)))))]))
      refine own_cs X13 hx hZ hown (hw _ (own_m 16 rfl)) (hw _ (own_m 17 rfl)) (hw _ (own_m 10 rfl)) (hw _ (own_m 18 rfl)) (by decide) (rm := { frames := 0, cells := 0, slots := 0, locals := 0 }) (rm_more l Z a0 hw [] (own_more (((own_at y0 y1 y2 y3 y4 y5 i0) &&& (255 : Int32)) &&& (15 : Int32)) (own_at y0 y1 y2 y3 y4 y5 (i0 + (1 : Int32)))) (own_at y0 y1 y2 y3 y4 y5 (i0 + (2 : Int32))) h0 n0 Z0 ) (by decide) (W := 0) (by decide) (by decide) (by decide) e13 (by rw [hml]; rfl) (argsL := [(.int (own_more (((own_at y0 y1 y2 y3 y4 y5 i0) &&& (255 : Int32)) &&& (15 : Int32)) (own_at y0 y1 y2 y3 y4 y5 (i0 + (1 : Int32))))), (.int (own_at y0 y1 y2 y3 y4 y5 (i0 + (2 : Int32))))]) (lenOf own_pd0 rfl) (rest := []) rfl rfl (Nat.le_of_eq rfl) (hb hby own_d_method_3_code_159) ?_
      intro _ T15 L15 X15 hQ15
      obtain ⟨rfl, N15q, e15⟩ := hQ15
      have N15 := Fr.app N13 N15q
      show own_Go p e below _ (T15.setTop (mkF m 162 #[.val (.ref a), .val (.int i0), .val (.int to0), .val (.int ((own_at y0 y1 y2 y3 y4 y5 i0) &&& (255 : Int32))), .val (.int (2 : Int32)), .val (.int (own_more (((own_at y0 y1 y2 y3 y4 y5 i0) &&& (255 : Int32)) &&& (15 : Int32)) (own_at y0 y1 y2 y3 y4 y5 (i0 + (1 : Int32))))), .val (.int (2048 : Int32))] [(.int (own_more (own_more (((own_at y0 y1 y2 y3 y4 y5 i0) &&& (255 : Int32)) &&& (15 : Int32)) (own_at y0 y1 y2 y3 y4 y5 (i0 + (1 : Int32)))) (own_at y0 y1 y2 y3 y4 y5 (i0 + (2 : Int32)))))]))
      refine own_go (fun _ hr => XS.istore X15.here hx rfl (hb hby own_d_method_3_code_162) rfl (l' := #[.val (.ref a), .val (.int i0), .val (.int to0), .val (.int ((own_at y0 y1 y2 y3 y4 y5 i0) &&& (255 : Int32))), .val (.int (2 : Int32)), .val (.int (own_more (own_more (((own_at y0 y1 y2 y3 y4 y5 i0) &&& (255 : Int32)) &&& (15 : Int32)) (own_at y0 y1 y2 y3 y4 y5 (i0 + (1 : Int32)))) (own_at y0 y1 y2 y3 y4 y5 (i0 + (2 : Int32))))), .val (.int (2048 : Int32))]) rfl (XS.iload X15.here hx rfl (hb hby own_d_method_3_code_164) rfl hr)) ?_
      show own_Go p e below _ (T15.setTop (mkF m 166 #[.val (.ref a), .val (.int i0), .val (.int to0), .val (.int ((own_at y0 y1 y2 y3 y4 y5 i0) &&& (255 : Int32))), .val (.int (2 : Int32)), .val (.int (own_more (own_more (((own_at y0 y1 y2 y3 y4 y5 i0) &&& (255 : Int32)) &&& (15 : Int32)) (own_at y0 y1 y2 y3 y4 y5 (i0 + (1 : Int32)))) (own_at y0 y1 y2 y3 y4 y5 (i0 + (2 : Int32))))), .val (.int (2048 : Int32))] [(.int (own_more (own_more (((own_at y0 y1 y2 y3 y4 y5 i0) &&& (255 : Int32)) &&& (15 : Int32)) (own_at y0 y1 y2 y3 y4 y5 (i0 + (1 : Int32)))) (own_at y0 y1 y2 y3 y4 y5 (i0 + (2 : Int32)))))]))
      rcases Classical.em ((own_more (own_more (((own_at y0 y1 y2 y3 y4 y5 i0) &&& (255 : Int32)) &&& (15 : Int32)) (own_at y0 y1 y2 y3 y4 y5 (i0 + (1 : Int32)))) (own_at y0 y1 y2 y3 y4 y5 (i0 + (2 : Int32)))) < (0 : Int32)) with c16 | c16
      · skip
        refine own_go (fun _ hr => XS.ifNo X15.here hx rfl (hb hby own_d_method_3_code_166) rfl ((if0 _ _).trans (tlt c16).2.1) hr) ?_
        show own_Go p e below _ (T15.setTop (mkF m 169 #[.val (.ref a), .val (.int i0), .val (.int to0), .val (.int ((own_at y0 y1 y2 y3 y4 y5 i0) &&& (255 : Int32))), .val (.int (2 : Int32)), .val (.int (own_more (own_more (((own_at y0 y1 y2 y3 y4 y5 i0) &&& (255 : Int32)) &&& (15 : Int32)) (own_at y0 y1 y2 y3 y4 y5 (i0 + (1 : Int32)))) (own_at y0 y1 y2 y3 y4 y5 (i0 + (2 : Int32))))), .val (.int (2048 : Int32))] []))
        refine own_go (fun _ hr => XS.iconst X15.here hx rfl (hb hby own_d_method_3_code_169) hr) ?_
        show own_Go p e below _ (T15.setTop (mkF m 170 #[.val (.ref a), .val (.int i0), .val (.int to0), .val (.int ((own_at y0 y1 y2 y3 y4 y5 i0) &&& (255 : Int32))), .val (.int (2 : Int32)), .val (.int (own_more (own_more (((own_at y0 y1 y2 y3 y4 y5 i0) &&& (255 : Int32)) &&& (15 : Int32)) (own_at y0 y1 y2 y3 y4 y5 (i0 + (1 : Int32)))) (own_at y0 y1 y2 y3 y4 y5 (i0 + (2 : Int32))))), .val (.int (2048 : Int32))] [(.int (-1 : Int32))]))
        exact own_retI X15 hx hlk Bd.returns (hb hby own_d_method_3_code_170) (by decide) (by decide) ⟨(congrArg (fun q => some (Value.int q)) (show (-1 : Int32) = own_step y0 y1 y2 y3 y4 y5 i0 to0 from Eq.symm (by unfold own_step; rw [if_neg c1, if_pos c2, if_neg c3, if_neg c4, if_pos c11, if_neg c12, if_neg c14, if_pos c16]))), N15, e15⟩
      refine own_go (fun _ hr => XS.ifYes X15.here hx rfl (pc0 := 166) (pc' := 171) rfl (hb hby own_d_method_3_code_166) rfl ((if0 _ _).trans (flt c16).2.1) (by decide) (by decide) hr) ?_
      show own_Go p e below _ (T15.setTop (mkF m 171 #[.val (.ref a), .val (.int i0), .val (.int to0), .val (.int ((own_at y0 y1 y2 y3 y4 y5 i0) &&& (255 : Int32))), .val (.int (2 : Int32)), .val (.int (own_more (own_more (((own_at y0 y1 y2 y3 y4 y5 i0) &&& (255 : Int32)) &&& (15 : Int32)) (own_at y0 y1 y2 y3 y4 y5 (i0 + (1 : Int32)))) (own_at y0 y1 y2 y3 y4 y5 (i0 + (2 : Int32))))), .val (.int (2048 : Int32))] []))
      refine own_go (fun _ hr => XS.iload X15.here hx rfl (hb hby own_d_method_3_code_171) rfl (XS.iconst X15.here hx rfl (hb hby own_d_method_3_code_173) (XS.icmpYes X15.here hx rfl (pc0 := 174) (pc' := 196) rfl (hb hby own_d_method_3_code_174) rfl (tlt (by decide)).1 (by decide) (by decide) (XS.iload X15.here hx rfl (hb hby own_d_method_3_code_196) rfl (XS.iload X15.here hx rfl (hb hby own_d_method_3_code_198) rfl hr))))) ?_
      show own_Go p e below _ (T15.setTop (mkF m 200 #[.val (.ref a), .val (.int i0), .val (.int to0), .val (.int ((own_at y0 y1 y2 y3 y4 y5 i0) &&& (255 : Int32))), .val (.int (2 : Int32)), .val (.int (own_more (own_more (((own_at y0 y1 y2 y3 y4 y5 i0) &&& (255 : Int32)) &&& (15 : Int32)) (own_at y0 y1 y2 y3 y4 y5 (i0 + (1 : Int32)))) (own_at y0 y1 y2 y3 y4 y5 (i0 + (2 : Int32))))), .val (.int (2048 : Int32))] [(.int (2048 : Int32)), (.int (own_more (own_more (((own_at y0 y1 y2 y3 y4 y5 i0) &&& (255 : Int32)) &&& (15 : Int32)) (own_at y0 y1 y2 y3 y4 y5 (i0 + (1 : Int32)))) (own_at y0 y1 y2 y3 y4 y5 (i0 + (2 : Int32)))))]))
      rcases Classical.em ((own_more (own_more (((own_at y0 y1 y2 y3 y4 y5 i0) &&& (255 : Int32)) &&& (15 : Int32)) (own_at y0 y1 y2 y3 y4 y5 (i0 + (1 : Int32)))) (own_at y0 y1 y2 y3 y4 y5 (i0 + (2 : Int32)))) < (2048 : Int32)) with c17 | c17
      · skip
        refine own_go (fun _ hr => XS.icmpYes X15.here hx rfl (pc0 := 200) (pc' := 224) rfl (hb hby own_d_method_3_code_200) rfl (tlt c17).1 (by decide) (by decide) hr) ?_
        show own_Go p e below _ (T15.setTop (mkF m 224 #[.val (.ref a), .val (.int i0), .val (.int to0), .val (.int ((own_at y0 y1 y2 y3 y4 y5 i0) &&& (255 : Int32))), .val (.int (2 : Int32)), .val (.int (own_more (own_more (((own_at y0 y1 y2 y3 y4 y5 i0) &&& (255 : Int32)) &&& (15 : Int32)) (own_at y0 y1 y2 y3 y4 y5 (i0 + (1 : Int32)))) (own_at y0 y1 y2 y3 y4 y5 (i0 + (2 : Int32))))), .val (.int (2048 : Int32))] []))
        refine own_go (fun _ hr => XS.iconst X15.here hx rfl (hb hby own_d_method_3_code_224) hr) ?_
        show own_Go p e below _ (T15.setTop (mkF m 225 #[.val (.ref a), .val (.int i0), .val (.int to0), .val (.int ((own_at y0 y1 y2 y3 y4 y5 i0) &&& (255 : Int32))), .val (.int (2 : Int32)), .val (.int (own_more (own_more (((own_at y0 y1 y2 y3 y4 y5 i0) &&& (255 : Int32)) &&& (15 : Int32)) (own_at y0 y1 y2 y3 y4 y5 (i0 + (1 : Int32)))) (own_at y0 y1 y2 y3 y4 y5 (i0 + (2 : Int32))))), .val (.int (2048 : Int32))] [(.int (-1 : Int32))]))
        exact own_retI X15 hx hlk Bd.returns (hb hby own_d_method_3_code_225) (by decide) (by decide) ⟨(congrArg (fun q => some (Value.int q)) (show (-1 : Int32) = own_step y0 y1 y2 y3 y4 y5 i0 to0 from Eq.symm (by unfold own_step; rw [if_neg c1, if_pos c2, if_neg c3, if_neg c4, if_pos c11, if_neg c12, if_neg c14, if_neg c16, if_pos c17]))), N15, e15⟩
      refine own_go (fun _ hr => XS.icmpNo X15.here hx rfl (hb hby own_d_method_3_code_200) rfl (flt c17).1 hr) ?_
      show own_Go p e below _ (T15.setTop (mkF m 203 #[.val (.ref a), .val (.int i0), .val (.int to0), .val (.int ((own_at y0 y1 y2 y3 y4 y5 i0) &&& (255 : Int32))), .val (.int (2 : Int32)), .val (.int (own_more (own_more (((own_at y0 y1 y2 y3 y4 y5 i0) &&& (255 : Int32)) &&& (15 : Int32)) (own_at y0 y1 y2 y3 y4 y5 (i0 + (1 : Int32)))) (own_at y0 y1 y2 y3 y4 y5 (i0 + (2 : Int32))))), .val (.int (2048 : Int32))] []))
      refine own_go (fun _ hr => XS.iload X15.here hx rfl (hb hby own_d_method_3_code_203) rfl hr) ?_
      show own_Go p e below _ (T15.setTop (mkF m 205 #[.val (.ref a), .val (.int i0), .val (.int to0), .val (.int ((own_at y0 y1 y2 y3 y4 y5 i0) &&& (255 : Int32))), .val (.int (2 : Int32)), .val (.int (own_more (own_more (((own_at y0 y1 y2 y3 y4 y5 i0) &&& (255 : Int32)) &&& (15 : Int32)) (own_at y0 y1 y2 y3 y4 y5 (i0 + (1 : Int32)))) (own_at y0 y1 y2 y3 y4 y5 (i0 + (2 : Int32))))), .val (.int (2048 : Int32))] [(.int (own_more (own_more (((own_at y0 y1 y2 y3 y4 y5 i0) &&& (255 : Int32)) &&& (15 : Int32)) (own_at y0 y1 y2 y3 y4 y5 (i0 + (1 : Int32)))) (own_at y0 y1 y2 y3 y4 y5 (i0 + (2 : Int32)))))]))
      refine own_go (X15.ldcInt hx hown (mvT hZ (hw _ (own_m 20 rfl))) rfl (hb hby own_d_method_3_code_205)) ?_
      show own_Go p e below _ (T15.setTop (mkF m 207 #[.val (.ref a), .val (.int i0), .val (.int to0), .val (.int ((own_at y0 y1 y2 y3 y4 y5 i0) &&& (255 : Int32))), .val (.int (2 : Int32)), .val (.int (own_more (own_more (((own_at y0 y1 y2 y3 y4 y5 i0) &&& (255 : Int32)) &&& (15 : Int32)) (own_at y0 y1 y2 y3 y4 y5 (i0 + (1 : Int32)))) (own_at y0 y1 y2 y3 y4 y5 (i0 + (2 : Int32))))), .val (.int (2048 : Int32))] [(.int (1114111 : Int32)), (.int (own_more (own_more (((own_at y0 y1 y2 y3 y4 y5 i0) &&& (255 : Int32)) &&& (15 : Int32)) (own_at y0 y1 y2 y3 y4 y5 (i0 + (1 : Int32)))) (own_at y0 y1 y2 y3 y4 y5 (i0 + (2 : Int32)))))]))
      have c18 : ¬ ((1114111 : Int32) < (own_more (own_more (((own_at y0 y1 y2 y3 y4 y5 i0) &&& (255 : Int32)) &&& (15 : Int32)) (own_at y0 y1 y2 y3 y4 y5 (i0 + (1 : Int32)))) (own_at y0 y1 y2 y3 y4 y5 (i0 + (2 : Int32))))) := by
        have q0 := rng32 i0
        have q1 := rng32 to0
        have q2 := rng32 y0
        have q3 := rng32 y1
        have q4 := rng32 y2
        have q5 := rng32 y3
        have q6 := rng32 y4
        have q7 := rng32 y5
        have q8 := rng32 (own_at y0 y1 y2 y3 y4 y5 i0)
        have q9 := c_mask (own_at y0 y1 y2 y3 y4 y5 i0) (255 : Int32) 8 (by decide) (by decide)
        have q10 := c_and ((own_at y0 y1 y2 y3 y4 y5 i0) &&& (255 : Int32)) (224 : Int32) (by decide)
        have q11 := c_and ((own_at y0 y1 y2 y3 y4 y5 i0) &&& (255 : Int32)) (240 : Int32) (by decide)
        have q12 := c_isub to0 i0
        have q13 := c_isub (to0 - i0) (1 : Int32)
        have q14 := c_mask ((own_at y0 y1 y2 y3 y4 y5 i0) &&& (255 : Int32)) (15 : Int32) 4 (by decide) (by decide)
        have q15 := c_iadd i0 (1 : Int32)
        have q16 := rng32 (own_at y0 y1 y2 y3 y4 y5 (i0 + (1 : Int32)))
        have q17 := own_more_w (((own_at y0 y1 y2 y3 y4 y5 i0) &&& (255 : Int32)) &&& (15 : Int32)) (own_at y0 y1 y2 y3 y4 y5 (i0 + (1 : Int32)))
        have q18 := c_iadd i0 (2 : Int32)
        have q19 := rng32 (own_at y0 y1 y2 y3 y4 y5 (i0 + (2 : Int32)))
        have q20 := own_more_w (own_more (((own_at y0 y1 y2 y3 y4 y5 i0) &&& (255 : Int32)) &&& (15 : Int32)) (own_at y0 y1 y2 y3 y4 y5 (i0 + (1 : Int32)))) (own_at y0 y1 y2 y3 y4 y5 (i0 + (2 : Int32)))
        have p0 := c1
        have p1 := c2
        have p2 := c3
        have p3 := c4
        have p4 := c11
        have p5 := c12
        have p6 := c14
        have p7 := c16
        have p8 := c17
        simp only [true_implies, Int32.lt_iff_toInt_lt, ← Int32.toInt_inj, Int32.reduceToInt, Int64.lt_iff_toInt_lt, ← Int64.toInt_inj, Int64.reduceToInt] at q0 q1 q2 q3 q4 q5 q6 q7 q8 q9 q10 q11 q12 q13 q14 q15 q16 q17 q18 q19 q20 p0 p1 p2 p3 p4 p5 p6 p7 p8 ⊢
        omega
      refine own_go (fun _ hr => XS.icmpNo X15.here hx rfl (hb hby own_d_method_3_code_207) rfl (flt c18).2.2.1 hr) ?_
      show own_Go p e below _ (T15.setTop (mkF m 210 #[.val (.ref a), .val (.int i0), .val (.int to0), .val (.int ((own_at y0 y1 y2 y3 y4 y5 i0) &&& (255 : Int32))), .val (.int (2 : Int32)), .val (.int (own_more (own_more (((own_at y0 y1 y2 y3 y4 y5 i0) &&& (255 : Int32)) &&& (15 : Int32)) (own_at y0 y1 y2 y3 y4 y5 (i0 + (1 : Int32)))) (own_at y0 y1 y2 y3 y4 y5 (i0 + (2 : Int32))))), .val (.int (2048 : Int32))] []))
      refine own_go (fun _ hr => XS.iload X15.here hx rfl (hb hby own_d_method_3_code_210) rfl hr) ?_
      show own_Go p e below _ (T15.setTop (mkF m 212 #[.val (.ref a), .val (.int i0), .val (.int to0), .val (.int ((own_at y0 y1 y2 y3 y4 y5 i0) &&& (255 : Int32))), .val (.int (2 : Int32)), .val (.int (own_more (own_more (((own_at y0 y1 y2 y3 y4 y5 i0) &&& (255 : Int32)) &&& (15 : Int32)) (own_at y0 y1 y2 y3 y4 y5 (i0 + (1 : Int32)))) (own_at y0 y1 y2 y3 y4 y5 (i0 + (2 : Int32))))), .val (.int (2048 : Int32))] [(.int (own_more (own_more (((own_at y0 y1 y2 y3 y4 y5 i0) &&& (255 : Int32)) &&& (15 : Int32)) (own_at y0 y1 y2 y3 y4 y5 (i0 + (1 : Int32)))) (own_at y0 y1 y2 y3 y4 y5 (i0 + (2 : Int32)))))]))
      refine own_go (X15.ldcInt hx hown (mvT hZ (hw _ (own_m 21 rfl))) rfl (hb hby own_d_method_3_code_212)) ?_
      show own_Go p e below _ (T15.setTop (mkF m 214 #[.val (.ref a), .val (.int i0), .val (.int to0), .val (.int ((own_at y0 y1 y2 y3 y4 y5 i0) &&& (255 : Int32))), .val (.int (2 : Int32)), .val (.int (own_more (own_more (((own_at y0 y1 y2 y3 y4 y5 i0) &&& (255 : Int32)) &&& (15 : Int32)) (own_at y0 y1 y2 y3 y4 y5 (i0 + (1 : Int32)))) (own_at y0 y1 y2 y3 y4 y5 (i0 + (2 : Int32))))), .val (.int (2048 : Int32))] [(.int (55296 : Int32)), (.int (own_more (own_more (((own_at y0 y1 y2 y3 y4 y5 i0) &&& (255 : Int32)) &&& (15 : Int32)) (own_at y0 y1 y2 y3 y4 y5 (i0 + (1 : Int32)))) (own_at y0 y1 y2 y3 y4 y5 (i0 + (2 : Int32)))))]))
      rcases Classical.em ((own_more (own_more (((own_at y0 y1 y2 y3 y4 y5 i0) &&& (255 : Int32)) &&& (15 : Int32)) (own_at y0 y1 y2 y3 y4 y5 (i0 + (1 : Int32)))) (own_at y0 y1 y2 y3 y4 y5 (i0 + (2 : Int32)))) < (55296 : Int32)) with c19 | c19
      · skip
        refine own_go (fun _ hr => XS.icmpYes X15.here hx rfl (pc0 := 214) (pc' := 226) rfl (hb hby own_d_method_3_code_214) rfl (tlt c19).1 (by decide) (by decide) hr) ?_
        show own_Go p e below _ (T15.setTop (mkF m 226 #[.val (.ref a), .val (.int i0), .val (.int to0), .val (.int ((own_at y0 y1 y2 y3 y4 y5 i0) &&& (255 : Int32))), .val (.int (2 : Int32)), .val (.int (own_more (own_more (((own_at y0 y1 y2 y3 y4 y5 i0) &&& (255 : Int32)) &&& (15 : Int32)) (own_at y0 y1 y2 y3 y4 y5 (i0 + (1 : Int32)))) (own_at y0 y1 y2 y3 y4 y5 (i0 + (2 : Int32))))), .val (.int (2048 : Int32))] []))
        refine own_go (fun _ hr => XS.iloadN X15.here hx rfl (hb hby own_d_method_3_code_226) rfl (XS.iconst X15.here hx rfl (hb hby own_d_method_3_code_227) (XS.iadd X15.here hx rfl (hb hby own_d_method_3_code_228) rfl (XS.iload X15.here hx rfl (hb hby own_d_method_3_code_229) rfl (XS.iadd X15.here hx rfl (hb hby own_d_method_3_code_231) rfl hr))))) ?_
        show own_Go p e below _ (T15.setTop (mkF m 232 #[.val (.ref a), .val (.int i0), .val (.int to0), .val (.int ((own_at y0 y1 y2 y3 y4 y5 i0) &&& (255 : Int32))), .val (.int (2 : Int32)), .val (.int (own_more (own_more (((own_at y0 y1 y2 y3 y4 y5 i0) &&& (255 : Int32)) &&& (15 : Int32)) (own_at y0 y1 y2 y3 y4 y5 (i0 + (1 : Int32)))) (own_at y0 y1 y2 y3 y4 y5 (i0 + (2 : Int32))))), .val (.int (2048 : Int32))] [(.int ((i0 + (1 : Int32)) + (2 : Int32)))]))
        exact own_retI X15 hx hlk Bd.returns (hb hby own_d_method_3_code_232) (by decide) (by decide) ⟨(congrArg (fun q => some (Value.int q)) (show ((i0 + (1 : Int32)) + (2 : Int32)) = own_step y0 y1 y2 y3 y4 y5 i0 to0 from Eq.symm (by unfold own_step; rw [if_neg c1, if_pos c2, if_neg c3, if_neg c4, if_pos c11, if_neg c12, if_neg c14, if_neg c16, if_neg c17, if_pos c19]))), N15, e15⟩
      refine own_go (fun _ hr => XS.icmpNo X15.here hx rfl (hb hby own_d_method_3_code_214) rfl (flt c19).1 hr) ?_
      show own_Go p e below _ (T15.setTop (mkF m 217 #[.val (.ref a), .val (.int i0), .val (.int to0), .val (.int ((own_at y0 y1 y2 y3 y4 y5 i0) &&& (255 : Int32))), .val (.int (2 : Int32)), .val (.int (own_more (own_more (((own_at y0 y1 y2 y3 y4 y5 i0) &&& (255 : Int32)) &&& (15 : Int32)) (own_at y0 y1 y2 y3 y4 y5 (i0 + (1 : Int32)))) (own_at y0 y1 y2 y3 y4 y5 (i0 + (2 : Int32))))), .val (.int (2048 : Int32))] []))
      refine own_go (fun _ hr => XS.iload X15.here hx rfl (hb hby own_d_method_3_code_217) rfl hr) ?_
      show own_Go p e below _ (T15.setTop (mkF m 219 #[.val (.ref a), .val (.int i0), .val (.int to0), .val (.int ((own_at y0 y1 y2 y3 y4 y5 i0) &&& (255 : Int32))), .val (.int (2 : Int32)), .val (.int (own_more (own_more (((own_at y0 y1 y2 y3 y4 y5 i0) &&& (255 : Int32)) &&& (15 : Int32)) (own_at y0 y1 y2 y3 y4 y5 (i0 + (1 : Int32)))) (own_at y0 y1 y2 y3 y4 y5 (i0 + (2 : Int32))))), .val (.int (2048 : Int32))] [(.int (own_more (own_more (((own_at y0 y1 y2 y3 y4 y5 i0) &&& (255 : Int32)) &&& (15 : Int32)) (own_at y0 y1 y2 y3 y4 y5 (i0 + (1 : Int32)))) (own_at y0 y1 y2 y3 y4 y5 (i0 + (2 : Int32)))))]))
      refine own_go (X15.ldcInt hx hown (mvT hZ (hw _ (own_m 22 rfl))) rfl (hb hby own_d_method_3_code_219)) ?_
      show own_Go p e below _ (T15.setTop (mkF m 221 #[.val (.ref a), .val (.int i0), .val (.int to0), .val (.int ((own_at y0 y1 y2 y3 y4 y5 i0) &&& (255 : Int32))), .val (.int (2 : Int32)), .val (.int (own_more (own_more (((own_at y0 y1 y2 y3 y4 y5 i0) &&& (255 : Int32)) &&& (15 : Int32)) (own_at y0 y1 y2 y3 y4 y5 (i0 + (1 : Int32)))) (own_at y0 y1 y2 y3 y4 y5 (i0 + (2 : Int32))))), .val (.int (2048 : Int32))] [(.int (57343 : Int32)), (.int (own_more (own_more (((own_at y0 y1 y2 y3 y4 y5 i0) &&& (255 : Int32)) &&& (15 : Int32)) (own_at y0 y1 y2 y3 y4 y5 (i0 + (1 : Int32)))) (own_at y0 y1 y2 y3 y4 y5 (i0 + (2 : Int32)))))]))
      rcases Classical.em ((57343 : Int32) < (own_more (own_more (((own_at y0 y1 y2 y3 y4 y5 i0) &&& (255 : Int32)) &&& (15 : Int32)) (own_at y0 y1 y2 y3 y4 y5 (i0 + (1 : Int32)))) (own_at y0 y1 y2 y3 y4 y5 (i0 + (2 : Int32))))) with c20 | c20
      · skip
        refine own_go (fun _ hr => XS.icmpYes X15.here hx rfl (pc0 := 221) (pc' := 226) rfl (hb hby own_d_method_3_code_221) rfl (tlt c20).2.2.1 (by decide) (by decide) hr) ?_
        show own_Go p e below _ (T15.setTop (mkF m 226 #[.val (.ref a), .val (.int i0), .val (.int to0), .val (.int ((own_at y0 y1 y2 y3 y4 y5 i0) &&& (255 : Int32))), .val (.int (2 : Int32)), .val (.int (own_more (own_more (((own_at y0 y1 y2 y3 y4 y5 i0) &&& (255 : Int32)) &&& (15 : Int32)) (own_at y0 y1 y2 y3 y4 y5 (i0 + (1 : Int32)))) (own_at y0 y1 y2 y3 y4 y5 (i0 + (2 : Int32))))), .val (.int (2048 : Int32))] []))
        refine own_go (fun _ hr => XS.iloadN X15.here hx rfl (hb hby own_d_method_3_code_226) rfl (XS.iconst X15.here hx rfl (hb hby own_d_method_3_code_227) (XS.iadd X15.here hx rfl (hb hby own_d_method_3_code_228) rfl (XS.iload X15.here hx rfl (hb hby own_d_method_3_code_229) rfl (XS.iadd X15.here hx rfl (hb hby own_d_method_3_code_231) rfl hr))))) ?_
        show own_Go p e below _ (T15.setTop (mkF m 232 #[.val (.ref a), .val (.int i0), .val (.int to0), .val (.int ((own_at y0 y1 y2 y3 y4 y5 i0) &&& (255 : Int32))), .val (.int (2 : Int32)), .val (.int (own_more (own_more (((own_at y0 y1 y2 y3 y4 y5 i0) &&& (255 : Int32)) &&& (15 : Int32)) (own_at y0 y1 y2 y3 y4 y5 (i0 + (1 : Int32)))) (own_at y0 y1 y2 y3 y4 y5 (i0 + (2 : Int32))))), .val (.int (2048 : Int32))] [(.int ((i0 + (1 : Int32)) + (2 : Int32)))]))
        exact own_retI X15 hx hlk Bd.returns (hb hby own_d_method_3_code_232) (by decide) (by decide) ⟨(congrArg (fun q => some (Value.int q)) (show ((i0 + (1 : Int32)) + (2 : Int32)) = own_step y0 y1 y2 y3 y4 y5 i0 to0 from Eq.symm (by unfold own_step; rw [if_neg c1, if_pos c2, if_neg c3, if_neg c4, if_pos c11, if_neg c12, if_neg c14, if_neg c16, if_neg c17, if_neg c19, if_pos c20]))), N15, e15⟩
      refine own_go (fun _ hr => XS.icmpNo X15.here hx rfl (hb hby own_d_method_3_code_221) rfl (flt c20).2.2.1 hr) ?_
      show own_Go p e below _ (T15.setTop (mkF m 224 #[.val (.ref a), .val (.int i0), .val (.int to0), .val (.int ((own_at y0 y1 y2 y3 y4 y5 i0) &&& (255 : Int32))), .val (.int (2 : Int32)), .val (.int (own_more (own_more (((own_at y0 y1 y2 y3 y4 y5 i0) &&& (255 : Int32)) &&& (15 : Int32)) (own_at y0 y1 y2 y3 y4 y5 (i0 + (1 : Int32)))) (own_at y0 y1 y2 y3 y4 y5 (i0 + (2 : Int32))))), .val (.int (2048 : Int32))] []))
      refine own_go (fun _ hr => XS.iconst X15.here hx rfl (hb hby own_d_method_3_code_224) hr) ?_
      show own_Go p e below _ (T15.setTop (mkF m 225 #[.val (.ref a), .val (.int i0), .val (.int to0), .val (.int ((own_at y0 y1 y2 y3 y4 y5 i0) &&& (255 : Int32))), .val (.int (2 : Int32)), .val (.int (own_more (own_more (((own_at y0 y1 y2 y3 y4 y5 i0) &&& (255 : Int32)) &&& (15 : Int32)) (own_at y0 y1 y2 y3 y4 y5 (i0 + (1 : Int32)))) (own_at y0 y1 y2 y3 y4 y5 (i0 + (2 : Int32))))), .val (.int (2048 : Int32))] [(.int (-1 : Int32))]))
      exact own_retI X15 hx hlk Bd.returns (hb hby own_d_method_3_code_225) (by decide) (by decide) ⟨(congrArg (fun q => some (Value.int q)) (show (-1 : Int32) = own_step y0 y1 y2 y3 y4 y5 i0 to0 from Eq.symm (by unfold own_step; rw [if_neg c1, if_pos c2, if_neg c3, if_neg c4, if_pos c11, if_neg c12, if_neg c14, if_neg c16, if_neg c17, if_neg c19, if_neg c20]))), N15, e15⟩
    refine own_go (fun _ hr => XS.icmpYes X0.here hx rfl (pc0 := 66) (pc' := 86) rfl (hb hby own_d_method_3_code_66) rfl (feq c11).2 (by decide) (by decide) hr) ?_
    show own_Go p e below _ (s₁.setTop (mkF m 86 #[.val (.ref a), .val (.int i0), .val (.int to0), .val (.int ((own_at y0 y1 y2 y3 y4 y5 i0) &&& (255 : Int32))), .unset, .unset, .unset] []))
    refine own_go (fun _ hr => XS.iloadN X0.here hx rfl (hb hby own_d_method_3_code_86) rfl (XS.sipush X0.here hx rfl (hb hby own_d_method_3_code_87) (XS.iand X0.here hx rfl (hb hby own_d_method_3_code_90) rfl (XS.sipush X0.here hx rfl (hb hby own_d_method_3_code_91) hr)))) ?_
    show own_Go p e below _ (s₁.setTop (mkF m 94 #[.val (.ref a), .val (.int i0), .val (.int to0), .val (.int ((own_at y0 y1 y2 y3 y4 y5 i0) &&& (255 : Int32))), .unset, .unset, .unset] [(.int (240 : Int32)), (.int (((own_at y0 y1 y2 y3 y4 y5 i0) &&& (255 : Int32)) &&& (248 : Int32)))]))
    rcases Classical.em ((((own_at y0 y1 y2 y3 y4 y5 i0) &&& (255 : Int32)) &&& (248 : Int32)) = (240 : Int32)) with c21 | c21
    · skip
      refine own_go (fun _ hr => XS.icmpNo X0.here hx rfl (hb hby own_d_method_3_code_94) rfl (teq c21).2 hr) ?_
      show own_Go p e below _ (s₁.setTop (mkF m 97 #[.val (.ref a), .val (.int i0), .val (.int to0), .val (.int ((own_at y0 y1 y2 y3 y4 y5 i0) &&& (255 : Int32))), .unset, .unset, .unset] []))
      refine own_go (fun _ hr => XS.iconst X0.here hx rfl (hb hby own_d_method_3_code_97) (XS.istore X0.here hx rfl (hb hby own_d_method_3_code_98) rfl (l' := #[.val (.ref a), .val (.int i0), .val (.int to0), .val (.int ((own_at y0 y1 y2 y3 y4 y5 i0) &&& (255 : Int32))), .val (.int (3 : Int32)), .unset, .unset]) rfl (XS.iloadN X0.here hx rfl (hb hby own_d_method_3_code_100) rfl (XS.bipush X0.here hx rfl (hb hby own_d_method_3_code_101) (XS.iand X0.here hx rfl (hb hby own_d_method_3_code_103) rfl (XS.istore X0.here hx rfl (hb hby own_d_method_3_code_104) rfl (l' := #[.val (.ref a), .val (.int i0), .val (.int to0), .val (.int ((own_at y0 y1 y2 y3 y4 y5 i0) &&& (255 : Int32))), .val (.int (3 : Int32)), .val (.int (((own_at y0 y1 y2 y3 y4 y5 i0) &&& (255 : Int32)) &&& (7 : Int32))), .unset]) rfl hr)))))) ?_
      show own_Go p e below _ (s₁.setTop (mkF m 106 #[.val (.ref a), .val (.int i0), .val (.int to0), .val (.int ((own_at y0 y1 y2 y3 y4 y5 i0) &&& (255 : Int32))), .val (.int (3 : Int32)), .val (.int (((own_at y0 y1 y2 y3 y4 y5 i0) &&& (255 : Int32)) &&& (7 : Int32))), .unset] []))
      refine own_go (X0.ldcInt hx hown (mvT hZ (hw _ (own_m 19 rfl))) rfl (hb hby own_d_method_3_code_106)) ?_
      show own_Go p e below _ (s₁.setTop (mkF m 108 #[.val (.ref a), .val (.int i0), .val (.int to0), .val (.int ((own_at y0 y1 y2 y3 y4 y5 i0) &&& (255 : Int32))), .val (.int (3 : Int32)), .val (.int (((own_at y0 y1 y2 y3 y4 y5 i0) &&& (255 : Int32)) &&& (7 : Int32))), .unset] [(.int (65536 : Int32))]))
      refine own_go (fun _ hr => XS.istore X0.here hx rfl (hb hby own_d_method_3_code_108) rfl (l' := #[.val (.ref a), .val (.int i0), .val (.int to0), .val (.int ((own_at y0 y1 y2 y3 y4 y5 i0) &&& (255 : Int32))), .val (.int (3 : Int32)), .val (.int (((own_at y0 y1 y2 y3 y4 y5 i0) &&& (255 : Int32)) &&& (7 : Int32))), .val (.int (65536 : Int32))]) rfl (XS.goto X0.here hx rfl (pc0 := 110) (pc' := 115) rfl (hb hby own_d_method_3_code_110) (by decide) (by decide) (XS.iloadN X0.here hx rfl (hb hby own_d_method_3_code_115) rfl (XS.iloadN X0.here hx rfl (hb hby own_d_method_3_code_116) rfl (XS.isub X0.here hx rfl (hb hby own_d_method_3_code_117) rfl (XS.iconst X0.here hx rfl (hb hby own_d_method_3_code_118) (XS.isub X0.here hx rfl (hb hby own_d_method_3_code_119) rfl (XS.iload X0.here hx rfl (hb hby own_d_method_3_code_120) rfl hr)))))))) ?_
      show own_Go p e below _ (s₁.setTop (mkF m 122 #[.val (.ref a), .val (.int i0), .val (.int to0), .val (.int ((own_at y0 y1 y2 y3 y4 y5 i0) &&& (255 : Int32))), .val (.int (3 : Int32)), .val (.int (((own_at y0 y1 y2 y3 y4 y5 i0) &&& (255 : Int32)) &&& (7 : Int32))), .val (.int (65536 : Int32))] [(.int (3 : Int32)), (.int ((to0 - i0) - (1 : Int32)))]))
      rcases Classical.em (((to0 - i0) - (1 : Int32)) < (3 : Int32)) with c22 | c22
      · skip
        refine own_go (fun _ hr => XS.icmpNo X0.here hx rfl (hb hby own_d_method_3_code_122) rfl (tlt c22).2.1 hr) ?_
        show own_Go p e below _ (s₁.setTop (mkF m 125 #[.val (.ref a), .val (.int i0), .val (.int to0), .val (.int ((own_at y0 y1 y2 y3 y4 y5 i0) &&& (255 : Int32))), .val (.int (3 : Int32)), .val (.int (((own_at y0 y1 y2 y3 y4 y5 i0) &&& (255 : Int32)) &&& (7 : Int32))), .val (.int (65536 : Int32))] []))
        refine own_go (fun _ hr => XS.iconst X0.here hx rfl (hb hby own_d_method_3_code_125) hr) ?_
        show own_Go p e below _ (s₁.setTop (mkF m 126 #[.val (.ref a), .val (.int i0), .val (.int to0), .val (.int ((own_at y0 y1 y2 y3 y4 y5 i0) &&& (255 : Int32))), .val (.int (3 : Int32)), .val (.int (((own_at y0 y1 y2 y3 y4 y5 i0) &&& (255 : Int32)) &&& (7 : Int32))), .val (.int (65536 : Int32))] [(.int (-1 : Int32))]))
        exact own_retI X0 hx hlk Bd.returns (hb hby own_d_method_3_code_126) (by decide) (by decide) ⟨(congrArg (fun q => some (Value.int q)) (show (-1 : Int32) = own_step y0 y1 y2 y3 y4 y5 i0 to0 from Eq.symm (by unfold own_step; rw [if_neg c1, if_pos c2, if_neg c3, if_neg c4, if_neg c11, if_pos c21, if_pos c22]))), N0, e0⟩
      refine own_go (fun _ hr => XS.icmpYes X0.here hx rfl (pc0 := 122) (pc' := 127) rfl (hb hby own_d_method_3_code_122) rfl (flt c22).2.1 (by decide) (by decide) hr) ?_
      show own_Go p e below _ (s₁.setTop (mkF m 127 #[.val (.ref a), .val (.int i0), .val (.int to0), .val (.int ((own_at y0 y1 y2 y3 y4 y5 i0) &&& (255 : Int32))), .val (.int (3 : Int32)), .val (.int (((own_at y0 y1 y2 y3 y4 y5 i0) &&& (255 : Int32)) &&& (7 : Int32))), .val (.int (65536 : Int32))] []))
      refine own_go (fun _ hr => XS.iload X0.here hx rfl (hb hby own_d_method_3_code_127) rfl (XS.aloadN X0.here hx rfl (hb hby own_d_method_3_code_129) rfl rfl (XS.iloadN X0.here hx rfl (hb hby own_d_method_3_code_130) rfl (XS.iconst X0.here hx rfl (hb hby own_d_method_3_code_131) (XS.iadd X0.here hx rfl (hb hby own_d_method_3_code_132) rfl (own_baload X0 hx hZ e0 V (i0 + (1 : Int32)) (.int (own_at y0 y1 y2 y3 y4 y5 (i0 + (1 : Int32)))) (own_ink c1 c2 hto c22 (by decide)) (own_get y0 y1 y2 y3 y4 y5 _ (own_ink c1 c2 hto c22 (by decide))) rfl rfl (hb hby own_d_method_3_code_133) hr)))))) ?_
      show own_Go p e below _ (s₁.setTop (mkF m 134 #[.val (.ref a), .val (.int i0), .val (.int to0), .val (.int ((own_at y0 y1 y2 y3 y4 y5 i0) &&& (255 : Int32))), .val (.int (3 : Int32)), .val (.int (((own_at y0 y1 y2 y3 y4 y5 i0) &&& (255 : Int32)) &&& (7 : Int32))), .val (.int (65536 : Int32))] [(.int (own_at y0 y1 y2 y3 y4 y5 (i0 + (1 : Int32)))), (.int (((own_at y0 y1 y2 y3 y4 y5 i0) &&& (255 : Int32)) &&& (7 : Int32)))]))
      refine own_cs X0 hx hZ hown (hw _ (own_m 16 rfl)) (hw _ (own_m 17 rfl)) (hw _ (own_m 10 rfl)) (hw _ (own_m 18 rfl)) (by decide) (rm := { frames := 0, cells := 0, slots := 0, locals := 0 }) (rm_more l Z a0 hw [] (((own_at y0 y1 y2 y3 y4 y5 i0) &&& (255 : Int32)) &&& (7 : Int32)) (own_at y0 y1 y2 y3 y4 y5 (i0 + (1 : Int32))) h0 n0 Z0 ) (by decide) (W := 0) (by decide) (by decide) (by decide) e0 (by rw [hml]; rfl) (argsL := [(.int (((own_at y0 y1 y2 y3 y4 y5 i0) &&& (255 : Int32)) &&& (7 : Int32))), (.int (own_at y0 y1 y2 y3 y4 y5 (i0 + (1 : Int32))))]) (lenOf own_pd0 rfl) (rest := []) rfl rfl (Nat.le_of_eq rfl) (hb hby own_d_method_3_code_134) ?_
      intro _ T23 L23 X23 hQ23
      obtain ⟨rfl, N23q, e23⟩ := hQ23
      have N23 := Fr.app N0 N23q
      show own_Go p e below _ (T23.setTop (mkF m 137 #[.val (.ref a), .val (.int i0), .val (.int to0), .val (.int ((own_at y0 y1 y2 y3 y4 y5 i0) &&& (255 : Int32))), .val (.int (3 : Int32)), .val (.int (((own_at y0 y1 y2 y3 y4 y5 i0) &&& (255 : Int32)) &&& (7 : Int32))), .val (.int (65536 : Int32))] [(.int (own_more (((own_at y0 y1 y2 y3 y4 y5 i0) &&& (255 : Int32)) &&& (7 : Int32)) (own_at y0 y1 y2 y3 y4 y5 (i0 + (1 : Int32)))))]))
      refine own_go (fun _ hr => XS.istore X23.here hx rfl (hb hby own_d_method_3_code_137) rfl (l' := #[.val (.ref a), .val (.int i0), .val (.int to0), .val (.int ((own_at y0 y1 y2 y3 y4 y5 i0) &&& (255 : Int32))), .val (.int (3 : Int32)), .val (.int (own_more (((own_at y0 y1 y2 y3 y4 y5 i0) &&& (255 : Int32)) &&& (7 : Int32)) (own_at y0 y1 y2 y3 y4 y5 (i0 + (1 : Int32))))), .val (.int (65536 : Int32))]) rfl (XS.iload X23.here hx rfl (hb hby own_d_method_3_code_139) rfl hr)) ?_
      show own_Go p e below _ (T23.setTop (mkF m 141 #[.val (.ref a), .val (.int i0), .val (.int to0), .val (.int ((own_at y0 y1 y2 y3 y4 y5 i0) &&& (255 : Int32))), .val (.int (3 : Int32)), .val (.int (own_more (((own_at y0 y1 y2 y3 y4 y5 i0) &&& (255 : Int32)) &&& (7 : Int32)) (own_at y0 y1 y2 y3 y4 y5 (i0 + (1 : Int32))))), .val (.int (65536 : Int32))] [(.int (own_more (((own_at y0 y1 y2 y3 y4 y5 i0) &&& (255 : Int32)) &&& (7 : Int32)) (own_at y0 y1 y2 y3 y4 y5 (i0 + (1 : Int32)))))]))
      rcases Classical.em ((own_more (((own_at y0 y1 y2 y3 y4 y5 i0) &&& (255 : Int32)) &&& (7 : Int32)) (own_at y0 y1 y2 y3 y4 y5 (i0 + (1 : Int32)))) < (0 : Int32)) with c24 | c24
      · skip
        refine own_go (fun _ hr => XS.ifNo X23.here hx rfl (hb hby own_d_method_3_code_141) rfl ((if0 _ _).trans (tlt c24).2.1) hr) ?_
        show own_Go p e below _ (T23.setTop (mkF m 144 #[.val (.ref a), .val (.int i0), .val (.int to0), .val (.int ((own_at y0 y1 y2 y3 y4 y5 i0) &&& (255 : Int32))), .val (.int (3 : Int32)), .val (.int (own_more (((own_at y0 y1 y2 y3 y4 y5 i0) &&& (255 : Int32)) &&& (7 : Int32)) (own_at y0 y1 y2 y3 y4 y5 (i0 + (1 : Int32))))), .val (.int (65536 : Int32))] []))
        refine own_go (fun _ hr => XS.iconst X23.here hx rfl (hb hby own_d_method_3_code_144) hr) ?_
        show own_Go p e below _ (T23.setTop (mkF m 145 #[.val (.ref a), .val (.int i0), .val (.int to0), .val (.int ((own_at y0 y1 y2 y3 y4 y5 i0) &&& (255 : Int32))), .val (.int (3 : Int32)), .val (.int (own_more (((own_at y0 y1 y2 y3 y4 y5 i0) &&& (255 : Int32)) &&& (7 : Int32)) (own_at y0 y1 y2 y3 y4 y5 (i0 + (1 : Int32))))), .val (.int (65536 : Int32))] [(.int (-1 : Int32))]))
        exact own_retI X23 hx hlk Bd.returns (hb hby own_d_method_3_code_145) (by decide) (by decide) ⟨(congrArg (fun q => some (Value.int q)) (show (-1 : Int32) = own_step y0 y1 y2 y3 y4 y5 i0 to0 from Eq.symm (by unfold own_step; rw [if_neg c1, if_pos c2, if_neg c3, if_neg c4, if_neg c11, if_pos c21, if_neg c22, if_pos c24]))), N23, e23⟩
      refine own_go (fun _ hr => XS.ifYes X23.here hx rfl (pc0 := 141) (pc' := 146) rfl (hb hby own_d_method_3_code_141) rfl ((if0 _ _).trans (flt c24).2.1) (by decide) (by decide) hr) ?_
      show own_Go p e below _ (T23.setTop (mkF m 146 #[.val (.ref a), .val (.int i0), .val (.int to0), .val (.int ((own_at y0 y1 y2 y3 y4 y5 i0) &&& (255 : Int32))), .val (.int (3 : Int32)), .val (.int (own_more (((own_at y0 y1 y2 y3 y4 y5 i0) &&& (255 : Int32)) &&& (7 : Int32)) (own_at y0 y1 y2 y3 y4 y5 (i0 + (1 : Int32))))), .val (.int (65536 : Int32))] []))
      refine own_go (fun _ hr => XS.iload X23.here hx rfl (hb hby own_d_method_3_code_146) rfl (XS.iconst X23.here hx rfl (hb hby own_d_method_3_code_148) (XS.icmpNo X23.here hx rfl (hb hby own_d_method_3_code_149) rfl (flt (by decide)).1 (XS.iload X23.here hx rfl (hb hby own_d_method_3_code_152) rfl (XS.aloadN X23.here hx rfl (hb hby own_d_method_3_code_154) rfl rfl (XS.iloadN X23.here hx rfl (hb hby own_d_method_3_code_155) rfl (XS.iconst X23.here hx rfl (hb hby own_d_method_3_code_156) (XS.iadd X23.here hx rfl (hb hby own_d_method_3_code_157) rfl (own_baload X23 hx hZ e23 V (i0 + (2 : Int32)) (.int (own_at y0 y1 y2 y3 y4 y5 (i0 + (2 : Int32)))) (own_ink c1 c2 hto c22 (by decide)) (own_get y0 y1 y2 y3 y4 y5 _ (own_ink c1 c2 hto c22 (by decide))) rfl rfl (hb hby own_d_method_3_code_158) hr))))))))) ?_
      show own_Go p e below _ (T23.setTop (mkF m 159 #[.val (.ref a), .val (.int i0), .val (.int to0), .val (.int ((own_at y0 y1 y2 y3 y4 y5 i0) &&& (255 : Int32))), .val (.int (3 : Int32)), .val (.int (own_more (((own_at y0 y1 y2 y3 y4 y5 i0) &&& (255 : Int32)) &&& (7 : Int32)) (own_at y0 y1 y2 y3 y4 y5 (i0 + (1 : Int32))))), .val (.int (65536 : Int32))] [(.int (own_at y0 y1 y2 y3 y4 y5 (i0 + (2 : Int32)))), (.int (own_more (((own_at y0 y1 y2 y3 y4 y5 i0) &&& (255 : Int32)) &&& (7 : Int32)) (own_at y0 y1 y2 y3 y4 y5 (i0 + (1 : Int32)))))]))
      refine own_cs X23 hx hZ hown (hw _ (own_m 16 rfl)) (hw _ (own_m 17 rfl)) (hw _ (own_m 10 rfl)) (hw _ (own_m 18 rfl)) (by decide) (rm := { frames := 0, cells := 0, slots := 0, locals := 0 }) (rm_more l Z a0 hw [] (own_more (((own_at y0 y1 y2 y3 y4 y5 i0) &&& (255 : Int32)) &&& (7 : Int32)) (own_at y0 y1 y2 y3 y4 y5 (i0 + (1 : Int32)))) (own_at y0 y1 y2 y3 y4 y5 (i0 + (2 : Int32))) h0 n0 Z0 ) (by decide) (W := 0) (by decide) (by decide) (by decide) e23 (by rw [hml]; rfl) (argsL := [(.int (own_more (((own_at y0 y1 y2 y3 y4 y5 i0) &&& (255 : Int32)) &&& (7 : Int32)) (own_at y0 y1 y2 y3 y4 y5 (i0 + (1 : Int32))))), (.int (own_at y0 y1 y2 y3 y4 y5 (i0 + (2 : Int32))))]) (lenOf own_pd0 rfl) (rest := []) rfl rfl (Nat.le_of_eq rfl) (hb hby own_d_method_3_code_159) ?_
      intro _ T25 L25 X25 hQ25
      obtain ⟨rfl, N25q, e25⟩ := hQ25
      have N25 := Fr.app N23 N25q
      show own_Go p e below _ (T25.setTop (mkF m 162 #[.val (.ref a), .val (.int i0), .val (.int to0), .val (.int ((own_at y0 y1 y2 y3 y4 y5 i0) &&& (255 : Int32))), .val (.int (3 : Int32)), .val (.int (own_more (((own_at y0 y1 y2 y3 y4 y5 i0) &&& (255 : Int32)) &&& (7 : Int32)) (own_at y0 y1 y2 y3 y4 y5 (i0 + (1 : Int32))))), .val (.int (65536 : Int32))] [(.int (own_more (own_more (((own_at y0 y1 y2 y3 y4 y5 i0) &&& (255 : Int32)) &&& (7 : Int32)) (own_at y0 y1 y2 y3 y4 y5 (i0 + (1 : Int32)))) (own_at y0 y1 y2 y3 y4 y5 (i0 + (2 : Int32)))))]))
      refine own_go (fun _ hr => XS.istore X25.here hx rfl (hb hby own_d_method_3_code_162) rfl (l' := #[.val (.ref a), .val (.int i0), .val (.int to0), .val (.int ((own_at y0 y1 y2 y3 y4 y5 i0) &&& (255 : Int32))), .val (.int (3 : Int32)), .val (.int (own_more (own_more (((own_at y0 y1 y2 y3 y4 y5 i0) &&& (255 : Int32)) &&& (7 : Int32)) (own_at y0 y1 y2 y3 y4 y5 (i0 + (1 : Int32)))) (own_at y0 y1 y2 y3 y4 y5 (i0 + (2 : Int32))))), .val (.int (65536 : Int32))]) rfl (XS.iload X25.here hx rfl (hb hby own_d_method_3_code_164) rfl hr)) ?_
      show own_Go p e below _ (T25.setTop (mkF m 166 #[.val (.ref a), .val (.int i0), .val (.int to0), .val (.int ((own_at y0 y1 y2 y3 y4 y5 i0) &&& (255 : Int32))), .val (.int (3 : Int32)), .val (.int (own_more (own_more (((own_at y0 y1 y2 y3 y4 y5 i0) &&& (255 : Int32)) &&& (7 : Int32)) (own_at y0 y1 y2 y3 y4 y5 (i0 + (1 : Int32)))) (own_at y0 y1 y2 y3 y4 y5 (i0 + (2 : Int32))))), .val (.int (65536 : Int32))] [(.int (own_more (own_more (((own_at y0 y1 y2 y3 y4 y5 i0) &&& (255 : Int32)) &&& (7 : Int32)) (own_at y0 y1 y2 y3 y4 y5 (i0 + (1 : Int32)))) (own_at y0 y1 y2 y3 y4 y5 (i0 + (2 : Int32)))))]))
      rcases Classical.em ((own_more (own_more (((own_at y0 y1 y2 y3 y4 y5 i0) &&& (255 : Int32)) &&& (7 : Int32)) (own_at y0 y1 y2 y3 y4 y5 (i0 + (1 : Int32)))) (own_at y0 y1 y2 y3 y4 y5 (i0 + (2 : Int32)))) < (0 : Int32)) with c26 | c26
      · skip
        refine own_go (fun _ hr => XS.ifNo X25.here hx rfl (hb hby own_d_method_3_code_166) rfl ((if0 _ _).trans (tlt c26).2.1) hr) ?_
        show own_Go p e below _ (T25.setTop (mkF m 169 #[.val (.ref a), .val (.int i0), .val (.int to0), .val (.int ((own_at y0 y1 y2 y3 y4 y5 i0) &&& (255 : Int32))), .val (.int (3 : Int32)), .val (.int (own_more (own_more (((own_at y0 y1 y2 y3 y4 y5 i0) &&& (255 : Int32)) &&& (7 : Int32)) (own_at y0 y1 y2 y3 y4 y5 (i0 + (1 : Int32)))) (own_at y0 y1 y2 y3 y4 y5 (i0 + (2 : Int32))))), .val (.int (65536 : Int32))] []))
        refine own_go (fun _ hr => XS.iconst X25.here hx rfl (hb hby own_d_method_3_code_169) hr) ?_
        show own_Go p e below _ (T25.setTop (mkF m 170 #[.val (.ref a), .val (.int i0), .val (.int to0), .val (.int ((own_at y0 y1 y2 y3 y4 y5 i0) &&& (255 : Int32))), .val (.int (3 : Int32)), .val (.int (own_more (own_more (((own_at y0 y1 y2 y3 y4 y5 i0) &&& (255 : Int32)) &&& (7 : Int32)) (own_at y0 y1 y2 y3 y4 y5 (i0 + (1 : Int32)))) (own_at y0 y1 y2 y3 y4 y5 (i0 + (2 : Int32))))), .val (.int (65536 : Int32))] [(.int (-1 : Int32))]))
        exact own_retI X25 hx hlk Bd.returns (hb hby own_d_method_3_code_170) (by decide) (by decide) ⟨(congrArg (fun q => some (Value.int q)) (show (-1 : Int32) = own_step y0 y1 y2 y3 y4 y5 i0 to0 from Eq.symm (by unfold own_step; rw [if_neg c1, if_pos c2, if_neg c3, if_neg c4, if_neg c11, if_pos c21, if_neg c22, if_neg c24, if_pos c26]))), N25, e25⟩
      refine own_go (fun _ hr => XS.ifYes X25.here hx rfl (pc0 := 166) (pc' := 171) rfl (hb hby own_d_method_3_code_166) rfl ((if0 _ _).trans (flt c26).2.1) (by decide) (by decide) hr) ?_
      show own_Go p e below _ (T25.setTop (mkF m 171 #[.val (.ref a), .val (.int i0), .val (.int to0), .val (.int ((own_at y0 y1 y2 y3 y4 y5 i0) &&& (255 : Int32))), .val (.int (3 : Int32)), .val (.int (own_more (own_more (((own_at y0 y1 y2 y3 y4 y5 i0) &&& (255 : Int32)) &&& (7 : Int32)) (own_at y0 y1 y2 y3 y4 y5 (i0 + (1 : Int32)))) (own_at y0 y1 y2 y3 y4 y5 (i0 + (2 : Int32))))), .val (.int (65536 : Int32))] []))
      refine own_go (fun _ hr => XS.iload X25.here hx rfl (hb hby own_d_method_3_code_171) rfl (XS.iconst X25.here hx rfl (hb hby own_d_method_3_code_173) (XS.icmpNo X25.here hx rfl (hb hby own_d_method_3_code_174) rfl (flt (by decide)).1 (XS.iload X25.here hx rfl (hb hby own_d_method_3_code_177) rfl (XS.aloadN X25.here hx rfl (hb hby own_d_method_3_code_179) rfl rfl (XS.iloadN X25.here hx rfl (hb hby own_d_method_3_code_180) rfl (XS.iconst X25.here hx rfl (hb hby own_d_method_3_code_181) (XS.iadd X25.here hx rfl (hb hby own_d_method_3_code_182) rfl (own_baload X25 hx hZ e25 V (i0 + (3 : Int32)) (.int (own_at y0 y1 y2 y3 y4 y5 (i0 + (3 : Int32)))) (own_ink c1 c2 hto c22 (by decide)) (own_get y0 y1 y2 y3 y4 y5 _ (own_ink c1 c2 hto c22 (by decide))) rfl rfl (hb hby own_d_method_3_code_183) hr))))))))) ?_
      show own_Go p e below _ (T25.setTop (mkF m 184 #[.val (.ref a), .val (.int i0), .val (.int to0), .val (.int ((own_at y0 y1 y2 y3 y4 y5 i0) &&& (255 : Int32))), .val (.int (3 : Int32)), .val (.int (own_more (own_more (((own_at y0 y1 y2 y3 y4 y5 i0) &&& (255 : Int32)) &&& (7 : Int32)) (own_at y0 y1 y2 y3 y4 y5 (i0 + (1 : Int32)))) (own_at y0 y1 y2 y3 y4 y5 (i0 + (2 : Int32))))), .val (.int (65536 : Int32))] [(.int (own_at y0 y1 y2 y3 y4 y5 (i0 + (3 : Int32)))), (.int (own_more (own_more (((own_at y0 y1 y2 y3 y4 y5 i0) &&& (255 : Int32)) &&& (7 : Int32)) (own_at y0 y1 y2 y3 y4 y5 (i0 + (1 : Int32)))) (own_at y0 y1 y2 y3 y4 y5 (i0 + (2 : Int32)))))]))
      refine own_cs X25 hx hZ hown (hw _ (own_m 16 rfl)) (hw _ (own_m 17 rfl)) (hw _ (own_m 10 rfl)) (hw _ (own_m 18 rfl)) (by decide) (rm := { frames := 0, cells := 0, slots := 0, locals := 0 }) (rm_more l Z a0 hw [] (own_more (own_more (((own_at y0 y1 y2 y3 y4 y5 i0) &&& (255 : Int32)) &&& (7 : Int32)) (own_at y0 y1 y2 y3 y4 y5 (i0 + (1 : Int32)))) (own_at y0 y1 y2 y3 y4 y5 (i0 + (2 : Int32)))) (own_at y0 y1 y2 y3 y4 y5 (i0 + (3 : Int32))) h0 n0 Z0 ) (by decide) (W := 0) (by decide) (by decide) (by decide) e25 (by rw [hml]; rfl) (argsL := [(.int (own_more (own_more (((own_at y0 y1 y2 y3 y4 y5 i0) &&& (255 : Int32)) &&& (7 : Int32)) (own_at y0 y1 y2 y3 y4 y5 (i0 + (1 : Int32)))) (own_at y0 y1 y2 y3 y4 y5 (i0 + (2 : Int32))))), (.int (own_at y0 y1 y2 y3 y4 y5 (i0 + (3 : Int32))))]) (lenOf own_pd0 rfl) (rest := []) rfl rfl (Nat.le_of_eq rfl) (hb hby own_d_method_3_code_184) ?_
      intro _ T27 L27 X27 hQ27
      obtain ⟨rfl, N27q, e27⟩ := hQ27
      have N27 := Fr.app N25 N27q
      show own_Go p e below _ (T27.setTop (mkF m 187 #[.val (.ref a), .val (.int i0), .val (.int to0), .val (.int ((own_at y0 y1 y2 y3 y4 y5 i0) &&& (255 : Int32))), .val (.int (3 : Int32)), .val (.int (own_more (own_more (((own_at y0 y1 y2 y3 y4 y5 i0) &&& (255 : Int32)) &&& (7 : Int32)) (own_at y0 y1 y2 y3 y4 y5 (i0 + (1 : Int32)))) (own_at y0 y1 y2 y3 y4 y5 (i0 + (2 : Int32))))), .val (.int (65536 : Int32))] [(.int (own_more (own_more (own_more (((own_at y0 y1 y2 y3 y4 y5 i0) &&& (255 : Int32)) &&& (7 : Int32)) (own_at y0 y1 y2 y3 y4 y5 (i0 + (1 : Int32)))) (own_at y0 y1 y2 y3 y4 y5 (i0 + (2 : Int32)))) (own_at y0 y1 y2 y3 y4 y5 (i0 + (3 : Int32)))))]))
      refine own_go (fun _ hr => XS.istore X27.here hx rfl (hb hby own_d_method_3_code_187) rfl (l' := #[.val (.ref a), .val (.int i0), .val (.int to0), .val (.int ((own_at y0 y1 y2 y3 y4 y5 i0) &&& (255 : Int32))), .val (.int (3 : Int32)), .val (.int (own_more (own_more (own_more (((own_at y0 y1 y2 y3 y4 y5 i0) &&& (255 : Int32)) &&& (7 : Int32)) (own_at y0 y1 y2 y3 y4 y5 (i0 + (1 : Int32)))) (own_at y0 y1 y2 y3 y4 y5 (i0 + (2 : Int32)))) (own_at y0 y1 y2 y3 y4 y5 (i0 + (3 : Int32))))), .val (.int (65536 : Int32))]) rfl (XS.iload X27.here hx rfl (hb hby own_d_method_3_code_189) rfl hr)) ?_
      show own_Go p e below _ (T27.setTop (mkF m 191 #[.val (.ref a), .val (.int i0), .val (.int to0), .val (.int ((own_at y0 y1 y2 y3 y4 y5 i0) &&& (255 : Int32))), .val (.int (3 : Int32)), .val (.int (own_more (own_more (own_more (((own_at y0 y1 y2 y3 y4 y5 i0) &&& (255 : Int32)) &&& (7 : Int32)) (own_at y0 y1 y2 y3 y4 y5 (i0 + (1 : Int32)))) (own_at y0 y1 y2 y3 y4 y5 (i0 + (2 : Int32)))) (own_at y0 y1 y2 y3 y4 y5 (i0 + (3 : Int32))))), .val (.int (65536 : Int32))] [(.int (own_more (own_more (own_more (((own_at y0 y1 y2 y3 y4 y5 i0) &&& (255 : Int32)) &&& (7 : Int32)) (own_at y0 y1 y2 y3 y4 y5 (i0 + (1 : Int32)))) (own_at y0 y1 y2 y3 y4 y5 (i0 + (2 : Int32)))) (own_at y0 y1 y2 y3 y4 y5 (i0 + (3 : Int32)))))]))
      rcases Classical.em ((own_more (own_more (own_more (((own_at y0 y1 y2 y3 y4 y5 i0) &&& (255 : Int32)) &&& (7 : Int32)) (own_at y0 y1 y2 y3 y4 y5 (i0 + (1 : Int32)))) (own_at y0 y1 y2 y3 y4 y5 (i0 + (2 : Int32)))) (own_at y0 y1 y2 y3 y4 y5 (i0 + (3 : Int32)))) < (0 : Int32)) with c28 | c28
      · skip
        refine own_go (fun _ hr => XS.ifNo X27.here hx rfl (hb hby own_d_method_3_code_191) rfl ((if0 _ _).trans (tlt c28).2.1) hr) ?_
        show own_Go p e below _ (T27.setTop (mkF m 194 #[.val (.ref a), .val (.int i0), .val (.int to0), .val (.int ((own_at y0 y1 y2 y3 y4 y5 i0) &&& (255 : Int32))), .val (.int (3 : Int32)), .val (.int (own_more (own_more (own_more (((own_at y0 y1 y2 y3 y4 y5 i0) &&& (255 : Int32)) &&& (7 : Int32)) (own_at y0 y1 y2 y3 y4 y5 (i0 + (1 : Int32)))) (own_at y0 y1 y2 y3 y4 y5 (i0 + (2 : Int32)))) (own_at y0 y1 y2 y3 y4 y5 (i0 + (3 : Int32))))), .val (.int (65536 : Int32))] []))
        refine own_go (fun _ hr => XS.iconst X27.here hx rfl (hb hby own_d_method_3_code_194) hr) ?_
        show own_Go p e below _ (T27.setTop (mkF m 195 #[.val (.ref a), .val (.int i0), .val (.int to0), .val (.int ((own_at y0 y1 y2 y3 y4 y5 i0) &&& (255 : Int32))), .val (.int (3 : Int32)), .val (.int (own_more (own_more (own_more (((own_at y0 y1 y2 y3 y4 y5 i0) &&& (255 : Int32)) &&& (7 : Int32)) (own_at y0 y1 y2 y3 y4 y5 (i0 + (1 : Int32)))) (own_at y0 y1 y2 y3 y4 y5 (i0 + (2 : Int32)))) (own_at y0 y1 y2 y3 y4 y5 (i0 + (3 : Int32))))), .val (.int (65536 : Int32))] [(.int (-1 : Int32))]))
        exact own_retI X27 hx hlk Bd.returns (hb hby own_d_method_3_code_195) (by decide) (by decide) ⟨(congrArg (fun q => some (Value.int q)) (show (-1 : Int32) = own_step y0 y1 y2 y3 y4 y5 i0 to0 from Eq.symm (by unfold own_step; rw [if_neg c1, if_pos c2, if_neg c3, if_neg c4, if_neg c11, if_pos c21, if_neg c22, if_neg c24, if_neg c26, if_pos c28]))), N27, e27⟩
      refine own_go (fun _ hr => XS.ifYes X27.here hx rfl (pc0 := 191) (pc' := 196) rfl (hb hby own_d_method_3_code_191) rfl ((if0 _ _).trans (flt c28).2.1) (by decide) (by decide) hr) ?_
      show own_Go p e below _ (T27.setTop (mkF m 196 #[.val (.ref a), .val (.int i0), .val (.int to0), .val (.int ((own_at y0 y1 y2 y3 y4 y5 i0) &&& (255 : Int32))), .val (.int (3 : Int32)), .val (.int (own_more (own_more (own_more (((own_at y0 y1 y2 y3 y4 y5 i0) &&& (255 : Int32)) &&& (7 : Int32)) (own_at y0 y1 y2 y3 y4 y5 (i0 + (1 : Int32)))) (own_at y0 y1 y2 y3 y4 y5 (i0 + (2 : Int32)))) (own_at y0 y1 y2 y3 y4 y5 (i0 + (3 : Int32))))), .val (.int (65536 : Int32))] []))
      refine own_go (fun _ hr => XS.iload X27.here hx rfl (hb hby own_d_method_3_code_196) rfl (XS.iload X27.here hx rfl (hb hby own_d_method_3_code_198) rfl hr)) ?_
      show own_Go p e below _ (T27.setTop (mkF m 200 #[.val (.ref a), .val (.int i0), .val (.int to0), .val (.int ((own_at y0 y1 y2 y3 y4 y5 i0) &&& (255 : Int32))), .val (.int (3 : Int32)), .val (.int (own_more (own_more (own_more (((own_at y0 y1 y2 y3 y4 y5 i0) &&& (255 : Int32)) &&& (7 : Int32)) (own_at y0 y1 y2 y3 y4 y5 (i0 + (1 : Int32)))) (own_at y0 y1 y2 y3 y4 y5 (i0 + (2 : Int32)))) (own_at y0 y1 y2 y3 y4 y5 (i0 + (3 : Int32))))), .val (.int (65536 : Int32))] [(.int (65536 : Int32)), (.int (own_more (own_more (own_more (((own_at y0 y1 y2 y3 y4 y5 i0) &&& (255 : Int32)) &&& (7 : Int32)) (own_at y0 y1 y2 y3 y4 y5 (i0 + (1 : Int32)))) (own_at y0 y1 y2 y3 y4 y5 (i0 + (2 : Int32)))) (own_at y0 y1 y2 y3 y4 y5 (i0 + (3 : Int32)))))]))
      rcases Classical.em ((own_more (own_more (own_more (((own_at y0 y1 y2 y3 y4 y5 i0) &&& (255 : Int32)) &&& (7 : Int32)) (own_at y0 y1 y2 y3 y4 y5 (i0 + (1 : Int32)))) (own_at y0 y1 y2 y3 y4 y5 (i0 + (2 : Int32)))) (own_at y0 y1 y2 y3 y4 y5 (i0 + (3 : Int32)))) < (65536 : Int32)) with c29 | c29
      · skip
        refine own_go (fun _ hr => XS.icmpYes X27.here hx rfl (pc0 := 200) (pc' := 224) rfl (hb hby own_d_method_3_code_200) rfl (tlt c29).1 (by decide) (by decide) hr) ?_
        show own_Go p e below _ (T27.setTop (mkF m 224 #[.val (.ref a), .val (.int i0), .val (.int to0), .val (.int ((own_at y0 y1 y2 y3 y4 y5 i0) &&& (255 : Int32))), .val (.int (3 : Int32)), .val (.int (own_more (own_more (own_more (((own_at y0 y1 y2 y3 y4 y5 i0) &&& (255 : Int32)) &&& (7 : Int32)) (own_at y0 y1 y2 y3 y4 y5 (i0 + (1 : Int32)))) (own_at y0 y1 y2 y3 y4 y5 (i0 + (2 : Int32)))) (own_at y0 y1 y2 y3 y4 y5 (i0 + (3 : Int32))))), .val (.int (65536 : Int32))] []))
        refine own_go (fun _ hr => XS.iconst X27.here hx rfl (hb hby own_d_method_3_code_224) hr) ?_
        show own_Go p e below _ (T27.setTop (mkF m 225 #[.val (.ref a), .val (.int i0), .val (.int to0), .val (.int ((own_at y0 y1 y2 y3 y4 y5 i0) &&& (255 : Int32))), .val (.int (3 : Int32)), .val (.int (own_more (own_more (own_more (((own_at y0 y1 y2 y3 y4 y5 i0) &&& (255 : Int32)) &&& (7 : Int32)) (own_at y0 y1 y2 y3 y4 y5 (i0 + (1 : Int32)))) (own_at y0 y1 y2 y3 y4 y5 (i0 + (2 : Int32)))) (own_at y0 y1 y2 y3 y4 y5 (i0 + (3 : Int32))))), .val (.int (65536 : Int32))] [(.int (-1 : Int32))]))
        exact own_retI X27 hx hlk Bd.returns (hb hby own_d_method_3_code_225) (by decide) (by decide) ⟨(congrArg (fun q => some (Value.int q)) (show (-1 : Int32) = own_step y0 y1 y2 y3 y4 y5 i0 to0 from Eq.symm (by unfold own_step; rw [if_neg c1, if_pos c2, if_neg c3, if_neg c4, if_neg c11, if_pos c21, if_neg c22, if_neg c24, if_neg c26, if_neg c28, if_pos c29]))), N27, e27⟩
      refine own_go (fun _ hr => XS.icmpNo X27.here hx rfl (hb hby own_d_method_3_code_200) rfl (flt c29).1 hr) ?_
      show own_Go p e below _ (T27.setTop (mkF m 203 #[.val (.ref a), .val (.int i0), .val (.int to0), .val (.int ((own_at y0 y1 y2 y3 y4 y5 i0) &&& (255 : Int32))), .val (.int (3 : Int32)), .val (.int (own_more (own_more (own_more (((own_at y0 y1 y2 y3 y4 y5 i0) &&& (255 : Int32)) &&& (7 : Int32)) (own_at y0 y1 y2 y3 y4 y5 (i0 + (1 : Int32)))) (own_at y0 y1 y2 y3 y4 y5 (i0 + (2 : Int32)))) (own_at y0 y1 y2 y3 y4 y5 (i0 + (3 : Int32))))), .val (.int (65536 : Int32))] []))
      refine own_go (fun _ hr => XS.iload X27.here hx rfl (hb hby own_d_method_3_code_203) rfl hr) ?_
      show own_Go p e below _ (T27.setTop (mkF m 205 #[.val (.ref a), .val (.int i0), .val (.int to0), .val (.int ((own_at y0 y1 y2 y3 y4 y5 i0) &&& (255 : Int32))), .val (.int (3 : Int32)), .val (.int (own_more (own_more (own_more (((own_at y0 y1 y2 y3 y4 y5 i0) &&& (255 : Int32)) &&& (7 : Int32)) (own_at y0 y1 y2 y3 y4 y5 (i0 + (1 : Int32)))) (own_at y0 y1 y2 y3 y4 y5 (i0 + (2 : Int32)))) (own_at y0 y1 y2 y3 y4 y5 (i0 + (3 : Int32))))), .val (.int (65536 : Int32))] [(.int (own_more (own_more (own_more (((own_at y0 y1 y2 y3 y4 y5 i0) &&& (255 : Int32)) &&& (7 : Int32)) (own_at y0 y1 y2 y3 y4 y5 (i0 + (1 : Int32)))) (own_at y0 y1 y2 y3 y4 y5 (i0 + (2 : Int32)))) (own_at y0 y1 y2 y3 y4 y5 (i0 + (3 : Int32)))))]))
      refine own_go (X27.ldcInt hx hown (mvT hZ (hw _ (own_m 20 rfl))) rfl (hb hby own_d_method_3_code_205)) ?_
      show own_Go p e below _ (T27.setTop (mkF m 207 #[.val (.ref a), .val (.int i0), .val (.int to0), .val (.int ((own_at y0 y1 y2 y3 y4 y5 i0) &&& (255 : Int32))), .val (.int (3 : Int32)), .val (.int (own_more (own_more (own_more (((own_at y0 y1 y2 y3 y4 y5 i0) &&& (255 : Int32)) &&& (7 : Int32)) (own_at y0 y1 y2 y3 y4 y5 (i0 + (1 : Int32)))) (own_at y0 y1 y2 y3 y4 y5 (i0 + (2 : Int32)))) (own_at y0 y1 y2 y3 y4 y5 (i0 + (3 : Int32))))), .val (.int (65536 : Int32))] [(.int (1114111 : Int32)), (.int (own_more (own_more (own_more (((own_at y0 y1 y2 y3 y4 y5 i0) &&& (255 : Int32)) &&& (7 : Int32)) (own_at y0 y1 y2 y3 y4 y5 (i0 + (1 : Int32)))) (own_at y0 y1 y2 y3 y4 y5 (i0 + (2 : Int32)))) (own_at y0 y1 y2 y3 y4 y5 (i0 + (3 : Int32)))))]))
      rcases Classical.em ((1114111 : Int32) < (own_more (own_more (own_more (((own_at y0 y1 y2 y3 y4 y5 i0) &&& (255 : Int32)) &&& (7 : Int32)) (own_at y0 y1 y2 y3 y4 y5 (i0 + (1 : Int32)))) (own_at y0 y1 y2 y3 y4 y5 (i0 + (2 : Int32)))) (own_at y0 y1 y2 y3 y4 y5 (i0 + (3 : Int32))))) with c30 | c30
      · skip
        refine own_go (fun _ hr => XS.icmpYes X27.here hx rfl (pc0 := 207) (pc' := 224) rfl (hb hby own_d_method_3_code_207) rfl (tlt c30).2.2.1 (by decide) (by decide) hr) ?_
        show own_Go p e below _ (T27.setTop (mkF m 224 #[.val (.ref a), .val (.int i0), .val (.int to0), .val (.int ((own_at y0 y1 y2 y3 y4 y5 i0) &&& (255 : Int32))), .val (.int (3 : Int32)), .val (.int (own_more (own_more (own_more (((own_at y0 y1 y2 y3 y4 y5 i0) &&& (255 : Int32)) &&& (7 : Int32)) (own_at y0 y1 y2 y3 y4 y5 (i0 + (1 : Int32)))) (own_at y0 y1 y2 y3 y4 y5 (i0 + (2 : Int32)))) (own_at y0 y1 y2 y3 y4 y5 (i0 + (3 : Int32))))), .val (.int (65536 : Int32))] []))
        refine own_go (fun _ hr => XS.iconst X27.here hx rfl (hb hby own_d_method_3_code_224) hr) ?_
        show own_Go p e below _ (T27.setTop (mkF m 225 #[.val (.ref a), .val (.int i0), .val (.int to0), .val (.int ((own_at y0 y1 y2 y3 y4 y5 i0) &&& (255 : Int32))), .val (.int (3 : Int32)), .val (.int (own_more (own_more (own_more (((own_at y0 y1 y2 y3 y4 y5 i0) &&& (255 : Int32)) &&& (7 : Int32)) (own_at y0 y1 y2 y3 y4 y5 (i0 + (1 : Int32)))) (own_at y0 y1 y2 y3 y4 y5 (i0 + (2 : Int32)))) (own_at y0 y1 y2 y3 y4 y5 (i0 + (3 : Int32))))), .val (.int (65536 : Int32))] [(.int (-1 : Int32))]))
        exact own_retI X27 hx hlk Bd.returns (hb hby own_d_method_3_code_225) (by decide) (by decide) ⟨(congrArg (fun q => some (Value.int q)) (show (-1 : Int32) = own_step y0 y1 y2 y3 y4 y5 i0 to0 from Eq.symm (by unfold own_step; rw [if_neg c1, if_pos c2, if_neg c3, if_neg c4, if_neg c11, if_pos c21, if_neg c22, if_neg c24, if_neg c26, if_neg c28, if_neg c29, if_pos c30]))), N27, e27⟩
      refine own_go (fun _ hr => XS.icmpNo X27.here hx rfl (hb hby own_d_method_3_code_207) rfl (flt c30).2.2.1 hr) ?_
      show own_Go p e below _ (T27.setTop (mkF m 210 #[.val (.ref a), .val (.int i0), .val (.int to0), .val (.int ((own_at y0 y1 y2 y3 y4 y5 i0) &&& (255 : Int32))), .val (.int (3 : Int32)), .val (.int (own_more (own_more (own_more (((own_at y0 y1 y2 y3 y4 y5 i0) &&& (255 : Int32)) &&& (7 : Int32)) (own_at y0 y1 y2 y3 y4 y5 (i0 + (1 : Int32)))) (own_at y0 y1 y2 y3 y4 y5 (i0 + (2 : Int32)))) (own_at y0 y1 y2 y3 y4 y5 (i0 + (3 : Int32))))), .val (.int (65536 : Int32))] []))
      refine own_go (fun _ hr => XS.iload X27.here hx rfl (hb hby own_d_method_3_code_210) rfl hr) ?_
      show own_Go p e below _ (T27.setTop (mkF m 212 #[.val (.ref a), .val (.int i0), .val (.int to0), .val (.int ((own_at y0 y1 y2 y3 y4 y5 i0) &&& (255 : Int32))), .val (.int (3 : Int32)), .val (.int (own_more (own_more (own_more (((own_at y0 y1 y2 y3 y4 y5 i0) &&& (255 : Int32)) &&& (7 : Int32)) (own_at y0 y1 y2 y3 y4 y5 (i0 + (1 : Int32)))) (own_at y0 y1 y2 y3 y4 y5 (i0 + (2 : Int32)))) (own_at y0 y1 y2 y3 y4 y5 (i0 + (3 : Int32))))), .val (.int (65536 : Int32))] [(.int (own_more (own_more (own_more (((own_at y0 y1 y2 y3 y4 y5 i0) &&& (255 : Int32)) &&& (7 : Int32)) (own_at y0 y1 y2 y3 y4 y5 (i0 + (1 : Int32)))) (own_at y0 y1 y2 y3 y4 y5 (i0 + (2 : Int32)))) (own_at y0 y1 y2 y3 y4 y5 (i0 + (3 : Int32)))))]))
      refine own_go (X27.ldcInt hx hown (mvT hZ (hw _ (own_m 21 rfl))) rfl (hb hby own_d_method_3_code_212)) ?_
      show own_Go p e below _ (T27.setTop (mkF m 214 #[.val (.ref a), .val (.int i0), .val (.int to0), .val (.int ((own_at y0 y1 y2 y3 y4 y5 i0) &&& (255 : Int32))), .val (.int (3 : Int32)), .val (.int (own_more (own_more (own_more (((own_at y0 y1 y2 y3 y4 y5 i0) &&& (255 : Int32)) &&& (7 : Int32)) (own_at y0 y1 y2 y3 y4 y5 (i0 + (1 : Int32)))) (own_at y0 y1 y2 y3 y4 y5 (i0 + (2 : Int32)))) (own_at y0 y1 y2 y3 y4 y5 (i0 + (3 : Int32))))), .val (.int (65536 : Int32))] [(.int (55296 : Int32)), (.int (own_more (own_more (own_more (((own_at y0 y1 y2 y3 y4 y5 i0) &&& (255 : Int32)) &&& (7 : Int32)) (own_at y0 y1 y2 y3 y4 y5 (i0 + (1 : Int32)))) (own_at y0 y1 y2 y3 y4 y5 (i0 + (2 : Int32)))) (own_at y0 y1 y2 y3 y4 y5 (i0 + (3 : Int32)))))]))
      have c31 : ¬ ((own_more (own_more (own_more (((own_at y0 y1 y2 y3 y4 y5 i0) &&& (255 : Int32)) &&& (7 : Int32)) (own_at y0 y1 y2 y3 y4 y5 (i0 + (1 : Int32)))) (own_at y0 y1 y2 y3 y4 y5 (i0 + (2 : Int32)))) (own_at y0 y1 y2 y3 y4 y5 (i0 + (3 : Int32)))) < (55296 : Int32)) := by
        have q0 := rng32 i0
        have q1 := rng32 to0
        have q2 := rng32 y0
        have q3 := rng32 y1
        have q4 := rng32 y2
        have q5 := rng32 y3
        have q6 := rng32 y4
        have q7 := rng32 y5
        have q8 := rng32 (own_at y0 y1 y2 y3 y4 y5 i0)
        have q9 := c_mask (own_at y0 y1 y2 y3 y4 y5 i0) (255 : Int32) 8 (by decide) (by decide)
        have q10 := c_and ((own_at y0 y1 y2 y3 y4 y5 i0) &&& (255 : Int32)) (224 : Int32) (by decide)
        have q11 := c_and ((own_at y0 y1 y2 y3 y4 y5 i0) &&& (255 : Int32)) (240 : Int32) (by decide)
        have q12 := c_and ((own_at y0 y1 y2 y3 y4 y5 i0) &&& (255 : Int32)) (248 : Int32) (by decide)
        have q13 := c_isub to0 i0
        have q14 := c_isub (to0 - i0) (1 : Int32)
        have q15 := c_mask ((own_at y0 y1 y2 y3 y4 y5 i0) &&& (255 : Int32)) (7 : Int32) 3 (by decide) (by decide)
        have q16 := c_iadd i0 (1 : Int32)
        have q17 := rng32 (own_at y0 y1 y2 y3 y4 y5 (i0 + (1 : Int32)))
        have q18 := own_more_w (((own_at y0 y1 y2 y3 y4 y5 i0) &&& (255 : Int32)) &&& (7 : Int32)) (own_at y0 y1 y2 y3 y4 y5 (i0 + (1 : Int32)))
        have q19 := c_iadd i0 (2 : Int32)
        have q20 := rng32 (own_at y0 y1 y2 y3 y4 y5 (i0 + (2 : Int32)))
        have q21 := own_more_w (own_more (((own_at y0 y1 y2 y3 y4 y5 i0) &&& (255 : Int32)) &&& (7 : Int32)) (own_at y0 y1 y2 y3 y4 y5 (i0 + (1 : Int32)))) (own_at y0 y1 y2 y3 y4 y5 (i0 + (2 : Int32)))
        have q22 := c_iadd i0 (3 : Int32)
        have q23 := rng32 (own_at y0 y1 y2 y3 y4 y5 (i0 + (3 : Int32)))
        have q24 := own_more_w (own_more (own_more (((own_at y0 y1 y2 y3 y4 y5 i0) &&& (255 : Int32)) &&& (7 : Int32)) (own_at y0 y1 y2 y3 y4 y5 (i0 + (1 : Int32)))) (own_at y0 y1 y2 y3 y4 y5 (i0 + (2 : Int32)))) (own_at y0 y1 y2 y3 y4 y5 (i0 + (3 : Int32)))
        have p0 := c1
        have p1 := c2
        have p2 := c3
        have p3 := c4
        have p4 := c11
        have p5 := c21
        have p6 := c22
        have p7 := c24
        have p8 := c26
        have p9 := c28
        have p10 := c29
        have p11 := c30
        simp only [true_implies, Int32.lt_iff_toInt_lt, ← Int32.toInt_inj, Int32.reduceToInt, Int64.lt_iff_toInt_lt, ← Int64.toInt_inj, Int64.reduceToInt] at q0 q1 q2 q3 q4 q5 q6 q7 q8 q9 q10 q11 q12 q13 q14 q15 q16 q17 q18 q19 q20 q21 q22 q23 q24 p0 p1 p2 p3 p4 p5 p6 p7 p8 p9 p10 p11 ⊢
        omega
      refine own_go (fun _ hr => XS.icmpNo X27.here hx rfl (hb hby own_d_method_3_code_214) rfl (flt c31).1 hr) ?_
      show own_Go p e below _ (T27.setTop (mkF m 217 #[.val (.ref a), .val (.int i0), .val (.int to0), .val (.int ((own_at y0 y1 y2 y3 y4 y5 i0) &&& (255 : Int32))), .val (.int (3 : Int32)), .val (.int (own_more (own_more (own_more (((own_at y0 y1 y2 y3 y4 y5 i0) &&& (255 : Int32)) &&& (7 : Int32)) (own_at y0 y1 y2 y3 y4 y5 (i0 + (1 : Int32)))) (own_at y0 y1 y2 y3 y4 y5 (i0 + (2 : Int32)))) (own_at y0 y1 y2 y3 y4 y5 (i0 + (3 : Int32))))), .val (.int (65536 : Int32))] []))
      refine own_go (fun _ hr => XS.iload X27.here hx rfl (hb hby own_d_method_3_code_217) rfl hr) ?_
      show own_Go p e below _ (T27.setTop (mkF m 219 #[.val (.ref a), .val (.int i0), .val (.int to0), .val (.int ((own_at y0 y1 y2 y3 y4 y5 i0) &&& (255 : Int32))), .val (.int (3 : Int32)), .val (.int (own_more (own_more (own_more (((own_at y0 y1 y2 y3 y4 y5 i0) &&& (255 : Int32)) &&& (7 : Int32)) (own_at y0 y1 y2 y3 y4 y5 (i0 + (1 : Int32)))) (own_at y0 y1 y2 y3 y4 y5 (i0 + (2 : Int32)))) (own_at y0 y1 y2 y3 y4 y5 (i0 + (3 : Int32))))), .val (.int (65536 : Int32))] [(.int (own_more (own_more (own_more (((own_at y0 y1 y2 y3 y4 y5 i0) &&& (255 : Int32)) &&& (7 : Int32)) (own_at y0 y1 y2 y3 y4 y5 (i0 + (1 : Int32)))) (own_at y0 y1 y2 y3 y4 y5 (i0 + (2 : Int32)))) (own_at y0 y1 y2 y3 y4 y5 (i0 + (3 : Int32)))))]))
      refine own_go (X27.ldcInt hx hown (mvT hZ (hw _ (own_m 22 rfl))) rfl (hb hby own_d_method_3_code_219)) ?_
      show own_Go p e below _ (T27.setTop (mkF m 221 #[.val (.ref a), .val (.int i0), .val (.int to0), .val (.int ((own_at y0 y1 y2 y3 y4 y5 i0) &&& (255 : Int32))), .val (.int (3 : Int32)), .val (.int (own_more (own_more (own_more (((own_at y0 y1 y2 y3 y4 y5 i0) &&& (255 : Int32)) &&& (7 : Int32)) (own_at y0 y1 y2 y3 y4 y5 (i0 + (1 : Int32)))) (own_at y0 y1 y2 y3 y4 y5 (i0 + (2 : Int32)))) (own_at y0 y1 y2 y3 y4 y5 (i0 + (3 : Int32))))), .val (.int (65536 : Int32))] [(.int (57343 : Int32)), (.int (own_more (own_more (own_more (((own_at y0 y1 y2 y3 y4 y5 i0) &&& (255 : Int32)) &&& (7 : Int32)) (own_at y0 y1 y2 y3 y4 y5 (i0 + (1 : Int32)))) (own_at y0 y1 y2 y3 y4 y5 (i0 + (2 : Int32)))) (own_at y0 y1 y2 y3 y4 y5 (i0 + (3 : Int32)))))]))
      have c32 : (57343 : Int32) < (own_more (own_more (own_more (((own_at y0 y1 y2 y3 y4 y5 i0) &&& (255 : Int32)) &&& (7 : Int32)) (own_at y0 y1 y2 y3 y4 y5 (i0 + (1 : Int32)))) (own_at y0 y1 y2 y3 y4 y5 (i0 + (2 : Int32)))) (own_at y0 y1 y2 y3 y4 y5 (i0 + (3 : Int32)))) := by
        have q0 := rng32 i0
        have q1 := rng32 to0
        have q2 := rng32 y0
        have q3 := rng32 y1
        have q4 := rng32 y2
        have q5 := rng32 y3
        have q6 := rng32 y4
        have q7 := rng32 y5
        have q8 := rng32 (own_at y0 y1 y2 y3 y4 y5 i0)
        have q9 := c_mask (own_at y0 y1 y2 y3 y4 y5 i0) (255 : Int32) 8 (by decide) (by decide)
        have q10 := c_and ((own_at y0 y1 y2 y3 y4 y5 i0) &&& (255 : Int32)) (224 : Int32) (by decide)
        have q11 := c_and ((own_at y0 y1 y2 y3 y4 y5 i0) &&& (255 : Int32)) (240 : Int32) (by decide)
        have q12 := c_and ((own_at y0 y1 y2 y3 y4 y5 i0) &&& (255 : Int32)) (248 : Int32) (by decide)
        have q13 := c_isub to0 i0
        have q14 := c_isub (to0 - i0) (1 : Int32)
        have q15 := c_mask ((own_at y0 y1 y2 y3 y4 y5 i0) &&& (255 : Int32)) (7 : Int32) 3 (by decide) (by decide)
        have q16 := c_iadd i0 (1 : Int32)
        have q17 := rng32 (own_at y0 y1 y2 y3 y4 y5 (i0 + (1 : Int32)))
        have q18 := own_more_w (((own_at y0 y1 y2 y3 y4 y5 i0) &&& (255 : Int32)) &&& (7 : Int32)) (own_at y0 y1 y2 y3 y4 y5 (i0 + (1 : Int32)))
        have q19 := c_iadd i0 (2 : Int32)
        have q20 := rng32 (own_at y0 y1 y2 y3 y4 y5 (i0 + (2 : Int32)))
        have q21 := own_more_w (own_more (((own_at y0 y1 y2 y3 y4 y5 i0) &&& (255 : Int32)) &&& (7 : Int32)) (own_at y0 y1 y2 y3 y4 y5 (i0 + (1 : Int32)))) (own_at y0 y1 y2 y3 y4 y5 (i0 + (2 : Int32)))
        have q22 := c_iadd i0 (3 : Int32)
        have q23 := rng32 (own_at y0 y1 y2 y3 y4 y5 (i0 + (3 : Int32)))
        have q24 := own_more_w (own_more (own_more (((own_at y0 y1 y2 y3 y4 y5 i0) &&& (255 : Int32)) &&& (7 : Int32)) (own_at y0 y1 y2 y3 y4 y5 (i0 + (1 : Int32)))) (own_at y0 y1 y2 y3 y4 y5 (i0 + (2 : Int32)))) (own_at y0 y1 y2 y3 y4 y5 (i0 + (3 : Int32)))
        have p0 := c1
        have p1 := c2
        have p2 := c3
        have p3 := c4
        have p4 := c11
        have p5 := c21
        have p6 := c22
        have p7 := c24
        have p8 := c26
        have p9 := c28
        have p10 := c29
        have p11 := c30
        have p12 := c31
        simp only [true_implies, Int32.lt_iff_toInt_lt, ← Int32.toInt_inj, Int32.reduceToInt, Int64.lt_iff_toInt_lt, ← Int64.toInt_inj, Int64.reduceToInt] at q0 q1 q2 q3 q4 q5 q6 q7 q8 q9 q10 q11 q12 q13 q14 q15 q16 q17 q18 q19 q20 q21 q22 q23 q24 p0 p1 p2 p3 p4 p5 p6 p7 p8 p9 p10 p11 p12 ⊢
        omega
      refine own_go (fun _ hr => XS.icmpYes X27.here hx rfl (pc0 := 221) (pc' := 226) rfl (hb hby own_d_method_3_code_221) rfl (tlt c32).2.2.1 (by decide) (by decide) hr) ?_
      show own_Go p e below _ (T27.setTop (mkF m 226 #[.val (.ref a), .val (.int i0), .val (.int to0), .val (.int ((own_at y0 y1 y2 y3 y4 y5 i0) &&& (255 : Int32))), .val (.int (3 : Int32)), .val (.int (own_more (own_more (own_more (((own_at y0 y1 y2 y3 y4 y5 i0) &&& (255 : Int32)) &&& (7 : Int32)) (own_at y0 y1 y2 y3 y4 y5 (i0 + (1 : Int32)))) (own_at y0 y1 y2 y3 y4 y5 (i0 + (2 : Int32)))) (own_at y0 y1 y2 y3 y4 y5 (i0 + (3 : Int32))))), .val (.int (65536 : Int32))] []))
      refine own_go (fun _ hr => XS.iloadN X27.here hx rfl (hb hby own_d_method_3_code_226) rfl (XS.iconst X27.here hx rfl (hb hby own_d_method_3_code_227) (XS.iadd X27.here hx rfl (hb hby own_d_method_3_code_228) rfl (XS.iload X27.here hx rfl (hb hby own_d_method_3_code_229) rfl (XS.iadd X27.here hx rfl (hb hby own_d_method_3_code_231) rfl hr))))) ?_
      show own_Go p e below _ (T27.setTop (mkF m 232 #[.val (.ref a), .val (.int i0), .val (.int to0), .val (.int ((own_at y0 y1 y2 y3 y4 y5 i0) &&& (255 : Int32))), .val (.int (3 : Int32)), .val (.int (own_more (own_more (own_more (((own_at y0 y1 y2 y3 y4 y5 i0) &&& (255 : Int32)) &&& (7 : Int32)) (own_at y0 y1 y2 y3 y4 y5 (i0 + (1 : Int32)))) (own_at y0 y1 y2 y3 y4 y5 (i0 + (2 : Int32)))) (own_at y0 y1 y2 y3 y4 y5 (i0 + (3 : Int32))))), .val (.int (65536 : Int32))] [(.int ((i0 + (1 : Int32)) + (3 : Int32)))]))
      exact own_retI X27 hx hlk Bd.returns (hb hby own_d_method_3_code_232) (by decide) (by decide) ⟨(congrArg (fun q => some (Value.int q)) (show ((i0 + (1 : Int32)) + (3 : Int32)) = own_step y0 y1 y2 y3 y4 y5 i0 to0 from Eq.symm (by unfold own_step; rw [if_neg c1, if_pos c2, if_neg c3, if_neg c4, if_neg c11, if_pos c21, if_neg c22, if_neg c24, if_neg c26, if_neg c28, if_neg c29, if_neg c30]))), N27, e27⟩
    refine own_go (fun _ hr => XS.icmpYes X0.here hx rfl (pc0 := 94) (pc' := 113) rfl (hb hby own_d_method_3_code_94) rfl (feq c21).2 (by decide) (by decide) hr) ?_
    show own_Go p e below _ (s₁.setTop (mkF m 113 #[.val (.ref a), .val (.int i0), .val (.int to0), .val (.int ((own_at y0 y1 y2 y3 y4 y5 i0) &&& (255 : Int32))), .unset, .unset, .unset] []))
    refine own_go (fun _ hr => XS.iconst X0.here hx rfl (hb hby own_d_method_3_code_113) hr) ?_
    show own_Go p e below _ (s₁.setTop (mkF m 114 #[.val (.ref a), .val (.int i0), .val (.int to0), .val (.int ((own_at y0 y1 y2 y3 y4 y5 i0) &&& (255 : Int32))), .unset, .unset, .unset] [(.int (-1 : Int32))]))
    exact own_retI X0 hx hlk Bd.returns (hb hby own_d_method_3_code_114) (by decide) (by decide) ⟨(congrArg (fun q => some (Value.int q)) (show (-1 : Int32) = own_step y0 y1 y2 y3 y4 y5 i0 to0 from Eq.symm (by unfold own_step; rw [if_neg c1, if_pos c2, if_neg c3, if_neg c4, if_neg c11, if_neg c21]))), N0, e0⟩
  refine own_go (fun _ hr => XS.icmpNo X0.here hx rfl (hb hby own_d_method_3_code_6) rfl (flt c2).1 hr) ?_
  show own_Go p e below _ (s₁.setTop (mkF m 9 #[.val (.ref a), .val (.int i0), .val (.int to0), .unset, .unset, .unset, .unset] []))
  refine own_go (fun _ hr => XS.iloadN X0.here hx rfl (hb hby own_d_method_3_code_9) rfl hr) ?_
  show own_Go p e below _ (s₁.setTop (mkF m 10 #[.val (.ref a), .val (.int i0), .val (.int to0), .unset, .unset, .unset, .unset] [(.int i0)]))
  exact own_retI X0 hx hlk Bd.returns (hb hby own_d_method_3_code_10) (by decide) (by decide) ⟨(congrArg (fun q => some (Value.int q)) (show i0 = own_step y0 y1 y2 y3 y4 y5 i0 to0 from Eq.symm (by unfold own_step; rw [if_neg c1, if_neg c2]))), N0, e0⟩
theorem own_tin {i t n k : Int32} (h1 : 0 ≤ i.toInt) (h2 : i < t) (h3 : t.toInt ≤ 6) (h4 : ¬ t - (i + 1) < n) (hk : 1 ≤ k.toInt ∧ k.toInt ≤ n.toInt ∧ n.toInt ≤ 3) : ¬ (i + k) < 0 ∧ (i + k) < 6 := by
  have q1 := c_isub t (i + 1); have q2 := c_iadd i 1; have q3 := c_iadd i k; have r1 := rng32 (t - (i + 1)); have r2 := rng32 (i + 1); have r3 := rng32 (i + k); have r4 := rng32 i; have r5 := rng32 t
  simp only [Int32.lt_iff_toInt_lt, Int32.reduceToInt] at *; omega
theorem own_a2 (i : Int32) : i + 1 + 1 = i + 2 := by rw [Int32.add_assoc]; rfl
theorem own_a3 (i : Int32) : i + 1 + 1 + 1 = i + 3 := by rw [Int32.add_assoc, Int32.add_assoc]; rfl

theorem own_d_prog_68_method_11_code_2 : decode prog_68_method_11_code 2 = .ok (.iload_n 3, 1) := by decide +kernel
theorem own_d_prog_68_method_11_code_3 : decode prog_68_method_11_code 3 = .ok (.iload_n 2, 1) := by decide +kernel
theorem own_d_prog_68_method_11_code_4 : decode prog_68_method_11_code 4 = .ok (.if_icmp .ge 263, 3) := by decide +kernel
theorem own_d_prog_68_method_11_code_7 : decode prog_68_method_11_code 7 = .ok (.aload_n 0, 1) := by decide +kernel
theorem own_d_prog_68_method_11_code_8 : decode prog_68_method_11_code 8 = .ok (.iload_n 3, 1) := by decide +kernel
theorem own_d_prog_68_method_11_code_9 : decode prog_68_method_11_code 9 = .ok (.iinc 3 1, 3) := by decide +kernel
theorem own_d_prog_68_method_11_code_12 : decode prog_68_method_11_code 12 = .ok (.baload, 1) := by decide +kernel
theorem own_d_prog_68_method_11_code_13 : decode prog_68_method_11_code 13 = .ok (.sipush 255, 3) := by decide +kernel
theorem own_d_prog_68_method_11_code_16 : decode prog_68_method_11_code 16 = .ok (.iand, 1) := by decide +kernel
theorem own_d_prog_68_method_11_code_17 : decode prog_68_method_11_code 17 = .ok (.istore 4, 2) := by decide +kernel
theorem own_d_prog_68_method_11_code_19 : decode prog_68_method_11_code 19 = .ok (.iload 4, 2) := by decide +kernel
theorem own_d_prog_68_method_11_code_21 : decode prog_68_method_11_code 21 = .ok (.sipush 128, 3) := by decide +kernel
theorem own_d_prog_68_method_11_code_24 : decode prog_68_method_11_code 24 = .ok (.if_icmp .ge 6, 3) := by decide +kernel
theorem own_d_prog_68_method_11_code_27 : decode prog_68_method_11_code 27 = .ok (.goto (-25), 3) := by decide +kernel
theorem own_d_prog_68_method_11_code_30 : decode prog_68_method_11_code 30 = .ok (.sipush 128, 3) := by decide +kernel
theorem own_d_prog_68_method_11_code_33 : decode prog_68_method_11_code 33 = .ok (.istore 6, 2) := by decide +kernel
theorem own_d_prog_68_method_11_code_35 : decode prog_68_method_11_code 35 = .ok (.sipush 191, 3) := by decide +kernel
theorem own_d_prog_68_method_11_code_38 : decode prog_68_method_11_code 38 = .ok (.istore 7, 2) := by decide +kernel
theorem own_d_prog_68_method_11_code_40 : decode prog_68_method_11_code 40 = .ok (.iload 4, 2) := by decide +kernel
theorem own_d_prog_68_method_11_code_42 : decode prog_68_method_11_code 42 = .ok (.sipush 194, 3) := by decide +kernel
theorem own_d_prog_68_method_11_code_45 : decode prog_68_method_11_code 45 = .ok (.if_icmp .lt 17, 3) := by decide +kernel
theorem own_d_prog_68_method_11_code_62 : decode prog_68_method_11_code 62 = .ok (.iload 4, 2) := by decide +kernel
theorem own_d_prog_68_method_11_code_64 : decode prog_68_method_11_code 64 = .ok (.sipush 224, 3) := by decide +kernel
theorem own_d_prog_68_method_11_code_67 : decode prog_68_method_11_code 67 = .ok (.if_icmp .lt 53, 3) := by decide +kernel
theorem own_d_prog_68_method_11_code_120 : decode prog_68_method_11_code 120 = .ok (.iload 4, 2) := by decide +kernel
theorem own_d_prog_68_method_11_code_122 : decode prog_68_method_11_code 122 = .ok (.sipush 240, 3) := by decide +kernel
theorem own_d_prog_68_method_11_code_125 : decode prog_68_method_11_code 125 = .ok (.if_icmp .lt 53, 3) := by decide +kernel
theorem own_d_prog_68_method_11_code_178 : decode prog_68_method_11_code 178 = .ok (.iconst 0, 1) := by decide +kernel
theorem own_d_prog_68_method_11_code_179 : decode prog_68_method_11_code 179 = .ok (.ireturn, 1) := by decide +kernel
theorem own_d_prog_68_method_11_code_48 : decode prog_68_method_11_code 48 = .ok (.iload 4, 2) := by decide +kernel
theorem own_d_prog_68_method_11_code_50 : decode prog_68_method_11_code 50 = .ok (.sipush 223, 3) := by decide +kernel
theorem own_d_prog_68_method_11_code_53 : decode prog_68_method_11_code 53 = .ok (.if_icmp .gt 9, 3) := by decide +kernel
theorem own_d_prog_68_method_11_code_70 : decode prog_68_method_11_code 70 = .ok (.iload 4, 2) := by decide +kernel
theorem own_d_prog_68_method_11_code_72 : decode prog_68_method_11_code 72 = .ok (.sipush 239, 3) := by decide +kernel
theorem own_d_prog_68_method_11_code_75 : decode prog_68_method_11_code 75 = .ok (.if_icmp .gt 45, 3) := by decide +kernel
theorem own_d_prog_68_method_11_code_128 : decode prog_68_method_11_code 128 = .ok (.iload 4, 2) := by decide +kernel
theorem own_d_prog_68_method_11_code_130 : decode prog_68_method_11_code 130 = .ok (.sipush 244, 3) := by decide +kernel
theorem own_d_prog_68_method_11_code_133 : decode prog_68_method_11_code 133 = .ok (.if_icmp .gt 45, 3) := by decide +kernel
theorem own_d_prog_68_method_11_code_136 : decode prog_68_method_11_code 136 = .ok (.iconst 3, 1) := by decide +kernel
theorem own_d_prog_68_method_11_code_137 : decode prog_68_method_11_code 137 = .ok (.istore 5, 2) := by decide +kernel
theorem own_d_prog_68_method_11_code_139 : decode prog_68_method_11_code 139 = .ok (.iload 4, 2) := by decide +kernel
theorem own_d_prog_68_method_11_code_141 : decode prog_68_method_11_code 141 = .ok (.sipush 240, 3) := by decide +kernel
theorem own_d_prog_68_method_11_code_144 : decode prog_68_method_11_code 144 = .ok (.if_icmp .ne 9, 3) := by decide +kernel
theorem own_d_prog_68_method_11_code_147 : decode prog_68_method_11_code 147 = .ok (.sipush 144, 3) := by decide +kernel
theorem own_d_prog_68_method_11_code_150 : decode prog_68_method_11_code 150 = .ok (.goto 5, 3) := by decide +kernel
theorem own_d_prog_68_method_11_code_155 : decode prog_68_method_11_code 155 = .ok (.istore 6, 2) := by decide +kernel
theorem own_d_prog_68_method_11_code_157 : decode prog_68_method_11_code 157 = .ok (.iload 4, 2) := by decide +kernel
theorem own_d_prog_68_method_11_code_159 : decode prog_68_method_11_code 159 = .ok (.sipush 244, 3) := by decide +kernel
theorem own_d_prog_68_method_11_code_162 : decode prog_68_method_11_code 162 = .ok (.if_icmp .ne 9, 3) := by decide +kernel
theorem own_d_prog_68_method_11_code_171 : decode prog_68_method_11_code 171 = .ok (.iload 7, 2) := by decide +kernel
theorem own_d_prog_68_method_11_code_173 : decode prog_68_method_11_code 173 = .ok (.istore 7, 2) := by decide +kernel
theorem own_d_prog_68_method_11_code_175 : decode prog_68_method_11_code 175 = .ok (.goto 5, 3) := by decide +kernel
theorem own_d_prog_68_method_11_code_180 : decode prog_68_method_11_code 180 = .ok (.iload_n 2, 1) := by decide +kernel
theorem own_d_prog_68_method_11_code_181 : decode prog_68_method_11_code 181 = .ok (.iload_n 3, 1) := by decide +kernel
theorem own_d_prog_68_method_11_code_182 : decode prog_68_method_11_code 182 = .ok (.isub, 1) := by decide +kernel
theorem own_d_prog_68_method_11_code_183 : decode prog_68_method_11_code 183 = .ok (.iload 5, 2) := by decide +kernel
theorem own_d_prog_68_method_11_code_185 : decode prog_68_method_11_code 185 = .ok (.if_icmp .ge 5, 3) := by decide +kernel
theorem own_d_prog_68_method_11_code_188 : decode prog_68_method_11_code 188 = .ok (.iconst 0, 1) := by decide +kernel
theorem own_d_prog_68_method_11_code_189 : decode prog_68_method_11_code 189 = .ok (.ireturn, 1) := by decide +kernel
theorem own_d_prog_68_method_11_code_190 : decode prog_68_method_11_code 190 = .ok (.aload_n 0, 1) := by decide +kernel
theorem own_d_prog_68_method_11_code_191 : decode prog_68_method_11_code 191 = .ok (.iload_n 3, 1) := by decide +kernel
theorem own_d_prog_68_method_11_code_192 : decode prog_68_method_11_code 192 = .ok (.iinc 3 1, 3) := by decide +kernel
theorem own_d_prog_68_method_11_code_195 : decode prog_68_method_11_code 195 = .ok (.baload, 1) := by decide +kernel
theorem own_d_prog_68_method_11_code_196 : decode prog_68_method_11_code 196 = .ok (.sipush 255, 3) := by decide +kernel
theorem own_d_prog_68_method_11_code_199 : decode prog_68_method_11_code 199 = .ok (.iand, 1) := by decide +kernel
theorem own_d_prog_68_method_11_code_200 : decode prog_68_method_11_code 200 = .ok (.istore 8, 2) := by decide +kernel
theorem own_d_prog_68_method_11_code_202 : decode prog_68_method_11_code 202 = .ok (.iload 8, 2) := by decide +kernel
theorem own_d_prog_68_method_11_code_204 : decode prog_68_method_11_code 204 = .ok (.iload 6, 2) := by decide +kernel
theorem own_d_prog_68_method_11_code_206 : decode prog_68_method_11_code 206 = .ok (.if_icmp .lt 10, 3) := by decide +kernel
theorem own_d_prog_68_method_11_code_216 : decode prog_68_method_11_code 216 = .ok (.iconst 0, 1) := by decide +kernel
theorem own_d_prog_68_method_11_code_217 : decode prog_68_method_11_code 217 = .ok (.ireturn, 1) := by decide +kernel
theorem own_d_prog_68_method_11_code_209 : decode prog_68_method_11_code 209 = .ok (.iload 8, 2) := by decide +kernel
theorem own_d_prog_68_method_11_code_211 : decode prog_68_method_11_code 211 = .ok (.iload 7, 2) := by decide +kernel
theorem own_d_prog_68_method_11_code_213 : decode prog_68_method_11_code 213 = .ok (.if_icmp .le 5, 3) := by decide +kernel
theorem own_d_prog_68_method_11_code_218 : decode prog_68_method_11_code 218 = .ok (.iconst 1, 1) := by decide +kernel
theorem own_d_prog_68_method_11_code_219 : decode prog_68_method_11_code 219 = .ok (.istore 9, 2) := by decide +kernel
theorem own_d_prog_68_method_11_code_221 : decode prog_68_method_11_code 221 = .ok (.iload 9, 2) := by decide +kernel
theorem own_d_prog_68_method_11_code_223 : decode prog_68_method_11_code 223 = .ok (.iload 5, 2) := by decide +kernel
theorem own_d_prog_68_method_11_code_225 : decode prog_68_method_11_code 225 = .ok (.if_icmp .ge 39, 3) := by decide +kernel
theorem own_d_prog_68_method_11_code_228 : decode prog_68_method_11_code 228 = .ok (.aload_n 0, 1) := by decide +kernel
theorem own_d_prog_68_method_11_code_229 : decode prog_68_method_11_code 229 = .ok (.iload_n 3, 1) := by decide +kernel
theorem own_d_prog_68_method_11_code_230 : decode prog_68_method_11_code 230 = .ok (.iinc 3 1, 3) := by decide +kernel
theorem own_d_prog_68_method_11_code_233 : decode prog_68_method_11_code 233 = .ok (.baload, 1) := by decide +kernel
theorem own_d_prog_68_method_11_code_234 : decode prog_68_method_11_code 234 = .ok (.sipush 255, 3) := by decide +kernel
theorem own_d_prog_68_method_11_code_237 : decode prog_68_method_11_code 237 = .ok (.iand, 1) := by decide +kernel
theorem own_d_prog_68_method_11_code_238 : decode prog_68_method_11_code 238 = .ok (.istore 10, 2) := by decide +kernel
theorem own_d_prog_68_method_11_code_240 : decode prog_68_method_11_code 240 = .ok (.iload 10, 2) := by decide +kernel
theorem own_d_prog_68_method_11_code_242 : decode prog_68_method_11_code 242 = .ok (.sipush 128, 3) := by decide +kernel
theorem own_d_prog_68_method_11_code_245 : decode prog_68_method_11_code 245 = .ok (.if_icmp .lt 11, 3) := by decide +kernel
theorem own_d_prog_68_method_11_code_256 : decode prog_68_method_11_code 256 = .ok (.iconst 0, 1) := by decide +kernel
theorem own_d_prog_68_method_11_code_257 : decode prog_68_method_11_code 257 = .ok (.ireturn, 1) := by decide +kernel
theorem own_d_prog_68_method_11_code_248 : decode prog_68_method_11_code 248 = .ok (.iload 10, 2) := by decide +kernel
theorem own_d_prog_68_method_11_code_250 : decode prog_68_method_11_code 250 = .ok (.sipush 191, 3) := by decide +kernel
theorem own_d_prog_68_method_11_code_253 : decode prog_68_method_11_code 253 = .ok (.if_icmp .le 5, 3) := by decide +kernel
theorem own_d_prog_68_method_11_code_258 : decode prog_68_method_11_code 258 = .ok (.iinc 9 1, 3) := by decide +kernel
theorem own_d_prog_68_method_11_code_261 : decode prog_68_method_11_code 261 = .ok (.goto (-40), 3) := by decide +kernel
theorem own_d_prog_68_method_11_code_264 : decode prog_68_method_11_code 264 = .ok (.goto (-262), 3) := by decide +kernel
theorem own_d_prog_68_method_11_code_153 : decode prog_68_method_11_code 153 = .ok (.iload 6, 2) := by decide +kernel
theorem own_d_prog_68_method_11_code_165 : decode prog_68_method_11_code 165 = .ok (.sipush 143, 3) := by decide +kernel
theorem own_d_prog_68_method_11_code_168 : decode prog_68_method_11_code 168 = .ok (.goto 5, 3) := by decide +kernel
theorem own_d_prog_68_method_11_code_78 : decode prog_68_method_11_code 78 = .ok (.iconst 2, 1) := by decide +kernel
theorem own_d_prog_68_method_11_code_79 : decode prog_68_method_11_code 79 = .ok (.istore 5, 2) := by decide +kernel
theorem own_d_prog_68_method_11_code_81 : decode prog_68_method_11_code 81 = .ok (.iload 4, 2) := by decide +kernel
theorem own_d_prog_68_method_11_code_83 : decode prog_68_method_11_code 83 = .ok (.sipush 224, 3) := by decide +kernel
theorem own_d_prog_68_method_11_code_86 : decode prog_68_method_11_code 86 = .ok (.if_icmp .ne 9, 3) := by decide +kernel
theorem own_d_prog_68_method_11_code_89 : decode prog_68_method_11_code 89 = .ok (.sipush 160, 3) := by decide +kernel
theorem own_d_prog_68_method_11_code_92 : decode prog_68_method_11_code 92 = .ok (.goto 5, 3) := by decide +kernel
theorem own_d_prog_68_method_11_code_97 : decode prog_68_method_11_code 97 = .ok (.istore 6, 2) := by decide +kernel
theorem own_d_prog_68_method_11_code_99 : decode prog_68_method_11_code 99 = .ok (.iload 4, 2) := by decide +kernel
theorem own_d_prog_68_method_11_code_101 : decode prog_68_method_11_code 101 = .ok (.sipush 237, 3) := by decide +kernel
theorem own_d_prog_68_method_11_code_104 : decode prog_68_method_11_code 104 = .ok (.if_icmp .ne 9, 3) := by decide +kernel
theorem own_d_prog_68_method_11_code_113 : decode prog_68_method_11_code 113 = .ok (.iload 7, 2) := by decide +kernel
theorem own_d_prog_68_method_11_code_115 : decode prog_68_method_11_code 115 = .ok (.istore 7, 2) := by decide +kernel
theorem own_d_prog_68_method_11_code_117 : decode prog_68_method_11_code 117 = .ok (.goto 63, 3) := by decide +kernel
theorem own_d_prog_68_method_11_code_95 : decode prog_68_method_11_code 95 = .ok (.iload 6, 2) := by decide +kernel
theorem own_d_prog_68_method_11_code_107 : decode prog_68_method_11_code 107 = .ok (.sipush 159, 3) := by decide +kernel
theorem own_d_prog_68_method_11_code_110 : decode prog_68_method_11_code 110 = .ok (.goto 5, 3) := by decide +kernel
theorem own_d_prog_68_method_11_code_56 : decode prog_68_method_11_code 56 = .ok (.iconst 1, 1) := by decide +kernel
theorem own_d_prog_68_method_11_code_57 : decode prog_68_method_11_code 57 = .ok (.istore 5, 2) := by decide +kernel
theorem own_d_prog_68_method_11_code_59 : decode prog_68_method_11_code 59 = .ok (.goto 121, 3) := by decide +kernel
theorem own_d_prog_68_method_11_code_267 : decode prog_68_method_11_code 267 = .ok (.iconst 1, 1) := by decide +kernel
theorem own_d_prog_68_method_11_code_268 : decode prog_68_method_11_code 268 = .ok (.ireturn, 1) := by decide +kernel
def own_turn (y0 : Int32) (y1 : Int32) (y2 : Int32) (y3 : Int32) (y4 : Int32) (y5 : Int32) (i : Int32) (to0 : Int32) : Int32 := (if ((own_at y0 y1 y2 y3 y4 y5 i) &&& (255 : Int32)) < (128 : Int32) then (i + (1 : Int32)) else (if ((own_at y0 y1 y2 y3 y4 y5 i) &&& (255 : Int32)) < (194 : Int32) then (-1 : Int32) else (if (223 : Int32) < ((own_at y0 y1 y2 y3 y4 y5 i) &&& (255 : Int32)) then (if (239 : Int32) < ((own_at y0 y1 y2 y3 y4 y5 i) &&& (255 : Int32)) then (if (244 : Int32) < ((own_at y0 y1 y2 y3 y4 y5 i) &&& (255 : Int32)) then (-1 : Int32) else (if ((own_at y0 y1 y2 y3 y4 y5 i) &&& (255 : Int32)) = (240 : Int32) then (if (to0 - (i + (1 : Int32))) < (3 : Int32) then (-1 : Int32) else (if ((own_at y0 y1 y2 y3 y4 y5 (i + (1 : Int32))) &&& (255 : Int32)) < (144 : Int32) then (-1 : Int32) else (if (191 : Int32) < ((own_at y0 y1 y2 y3 y4 y5 (i + (1 : Int32))) &&& (255 : Int32)) then (-1 : Int32) else (if ((own_at y0 y1 y2 y3 y4 y5 ((i + (1 : Int32)) + (1 : Int32))) &&& (255 : Int32)) < (128 : Int32) then (-1 : Int32) else (if (191 : Int32) < ((own_at y0 y1 y2 y3 y4 y5 ((i + (1 : Int32)) + (1 : Int32))) &&& (255 : Int32)) then (-1 : Int32) else (if ((own_at y0 y1 y2 y3 y4 y5 (((i + (1 : Int32)) + (1 : Int32)) + (1 : Int32))) &&& (255 : Int32)) < (128 : Int32) then (-1 : Int32) else (if (191 : Int32) < ((own_at y0 y1 y2 y3 y4 y5 (((i + (1 : Int32)) + (1 : Int32)) + (1 : Int32))) &&& (255 : Int32)) then (-1 : Int32) else ((((i + (1 : Int32)) + (1 : Int32)) + (1 : Int32)) + (1 : Int32))))))))) else (if ((own_at y0 y1 y2 y3 y4 y5 i) &&& (255 : Int32)) = (244 : Int32) then (if (to0 - (i + (1 : Int32))) < (3 : Int32) then (-1 : Int32) else (if ((own_at y0 y1 y2 y3 y4 y5 (i + (1 : Int32))) &&& (255 : Int32)) < (128 : Int32) then (-1 : Int32) else (if (143 : Int32) < ((own_at y0 y1 y2 y3 y4 y5 (i + (1 : Int32))) &&& (255 : Int32)) then (-1 : Int32) else (if ((own_at y0 y1 y2 y3 y4 y5 ((i + (1 : Int32)) + (1 : Int32))) &&& (255 : Int32)) < (128 : Int32) then (-1 : Int32) else (if (191 : Int32) < ((own_at y0 y1 y2 y3 y4 y5 ((i + (1 : Int32)) + (1 : Int32))) &&& (255 : Int32)) then (-1 : Int32) else (if ((own_at y0 y1 y2 y3 y4 y5 (((i + (1 : Int32)) + (1 : Int32)) + (1 : Int32))) &&& (255 : Int32)) < (128 : Int32) then (-1 : Int32) else (if (191 : Int32) < ((own_at y0 y1 y2 y3 y4 y5 (((i + (1 : Int32)) + (1 : Int32)) + (1 : Int32))) &&& (255 : Int32)) then (-1 : Int32) else ((((i + (1 : Int32)) + (1 : Int32)) + (1 : Int32)) + (1 : Int32))))))))) else (if (to0 - (i + (1 : Int32))) < (3 : Int32) then (-1 : Int32) else (if ((own_at y0 y1 y2 y3 y4 y5 (i + (1 : Int32))) &&& (255 : Int32)) < (128 : Int32) then (-1 : Int32) else (if (191 : Int32) < ((own_at y0 y1 y2 y3 y4 y5 (i + (1 : Int32))) &&& (255 : Int32)) then (-1 : Int32) else (if ((own_at y0 y1 y2 y3 y4 y5 ((i + (1 : Int32)) + (1 : Int32))) &&& (255 : Int32)) < (128 : Int32) then (-1 : Int32) else (if (191 : Int32) < ((own_at y0 y1 y2 y3 y4 y5 ((i + (1 : Int32)) + (1 : Int32))) &&& (255 : Int32)) then (-1 : Int32) else (if ((own_at y0 y1 y2 y3 y4 y5 (((i + (1 : Int32)) + (1 : Int32)) + (1 : Int32))) &&& (255 : Int32)) < (128 : Int32) then (-1 : Int32) else (if (191 : Int32) < ((own_at y0 y1 y2 y3 y4 y5 (((i + (1 : Int32)) + (1 : Int32)) + (1 : Int32))) &&& (255 : Int32)) then (-1 : Int32) else ((((i + (1 : Int32)) + (1 : Int32)) + (1 : Int32)) + (1 : Int32)))))))))))) else (if ((own_at y0 y1 y2 y3 y4 y5 i) &&& (255 : Int32)) = (224 : Int32) then (if (to0 - (i + (1 : Int32))) < (2 : Int32) then (-1 : Int32) else (if ((own_at y0 y1 y2 y3 y4 y5 (i + (1 : Int32))) &&& (255 : Int32)) < (160 : Int32) then (-1 : Int32) else (if (191 : Int32) < ((own_at y0 y1 y2 y3 y4 y5 (i + (1 : Int32))) &&& (255 : Int32)) then (-1 : Int32) else (if ((own_at y0 y1 y2 y3 y4 y5 ((i + (1 : Int32)) + (1 : Int32))) &&& (255 : Int32)) < (128 : Int32) then (-1 : Int32) else (if (191 : Int32) < ((own_at y0 y1 y2 y3 y4 y5 ((i + (1 : Int32)) + (1 : Int32))) &&& (255 : Int32)) then (-1 : Int32) else (((i + (1 : Int32)) + (1 : Int32)) + (1 : Int32))))))) else (if ((own_at y0 y1 y2 y3 y4 y5 i) &&& (255 : Int32)) = (237 : Int32) then (if (to0 - (i + (1 : Int32))) < (2 : Int32) then (-1 : Int32) else (if ((own_at y0 y1 y2 y3 y4 y5 (i + (1 : Int32))) &&& (255 : Int32)) < (128 : Int32) then (-1 : Int32) else (if (159 : Int32) < ((own_at y0 y1 y2 y3 y4 y5 (i + (1 : Int32))) &&& (255 : Int32)) then (-1 : Int32) else (if ((own_at y0 y1 y2 y3 y4 y5 ((i + (1 : Int32)) + (1 : Int32))) &&& (255 : Int32)) < (128 : Int32) then (-1 : Int32) else (if (191 : Int32) < ((own_at y0 y1 y2 y3 y4 y5 ((i + (1 : Int32)) + (1 : Int32))) &&& (255 : Int32)) then (-1 : Int32) else (((i + (1 : Int32)) + (1 : Int32)) + (1 : Int32))))))) else (if (to0 - (i + (1 : Int32))) < (2 : Int32) then (-1 : Int32) else (if ((own_at y0 y1 y2 y3 y4 y5 (i + (1 : Int32))) &&& (255 : Int32)) < (128 : Int32) then (-1 : Int32) else (if (191 : Int32) < ((own_at y0 y1 y2 y3 y4 y5 (i + (1 : Int32))) &&& (255 : Int32)) then (-1 : Int32) else (if ((own_at y0 y1 y2 y3 y4 y5 ((i + (1 : Int32)) + (1 : Int32))) &&& (255 : Int32)) < (128 : Int32) then (-1 : Int32) else (if (191 : Int32) < ((own_at y0 y1 y2 y3 y4 y5 ((i + (1 : Int32)) + (1 : Int32))) &&& (255 : Int32)) then (-1 : Int32) else (((i + (1 : Int32)) + (1 : Int32)) + (1 : Int32)))))))))) else (if (to0 - (i + (1 : Int32))) < (1 : Int32) then (-1 : Int32) else (if ((own_at y0 y1 y2 y3 y4 y5 (i + (1 : Int32))) &&& (255 : Int32)) < (128 : Int32) then (-1 : Int32) else (if (191 : Int32) < ((own_at y0 y1 y2 y3 y4 y5 (i + (1 : Int32))) &&& (255 : Int32)) then (-1 : Int32) else ((i + (1 : Int32)) + (1 : Int32))))))))
def own_wf (y0 y1 y2 y3 y4 y5 to0 : Int32) : Nat → Int32 → Int32
  | 0, _ => 1
  | k + 1, i => if i < to0 then (if own_turn y0 y1 y2 y3 y4 y5 i to0 = -1 then 0 else own_wf y0 y1 y2 y3 y4 y5 to0 k (own_turn y0 y1 y2 y3 y4 y5 i to0)) else 1
theorem own_wf_end (y0 y1 y2 y3 y4 y5 to0 : Int32) (k : Nat) (i : Int32) (h : ¬ i < to0) : own_wf y0 y1 y2 y3 y4 y5 to0 k i = 1 := by
  cases k with
  | zero => rfl
  | succ k => simp [own_wf, h]
theorem own_wf_bad (y0 y1 y2 y3 y4 y5 to0 : Int32) (k : Nat) (i : Int32) (h : i < to0) (q : own_turn y0 y1 y2 y3 y4 y5 i to0 = -1) : own_wf y0 y1 y2 y3 y4 y5 to0 (k + 1) i = 0 := by simp [own_wf, h, q]
theorem own_wf_on (y0 y1 y2 y3 y4 y5 to0 : Int32) (k : Nat) (i j : Int32) (h : i < to0) (q : own_turn y0 y1 y2 y3 y4 y5 i to0 = j) (n : ¬ j = -1) : own_wf y0 y1 y2 y3 y4 y5 to0 (k + 1) i = own_wf y0 y1 y2 y3 y4 y5 to0 k j := by
  subst q; simp [own_wf, h, n]

theorem own_d_prog_68_method_11_code_0 : decode prog_68_method_11_code 0 = .ok (.iload_n 1, 1) := by decide +kernel
theorem own_d_prog_68_method_11_code_1 : decode prog_68_method_11_code 1 = .ok (.istore_n 3, 1) := by decide +kernel
theorem own_pn_com_example_entryway_entryway_format_Source : plainName "com/example/entryway/entryway/format/Source" = true := by first | (simp [plainName, overriddenIn]; done) | decide +kernel
def Q_wf (Z : State) (y0 : Int32) (y1 : Int32) (y2 : Int32) (y3 : Int32) (y4 : Int32) (y5 : Int32) (fr0 : Int32) (to0 : Int32) (h0 : Heap) (n0 : Nat) (v : Option Value) (h : Heap) (L : List Loc) : Prop := v = some (.int (own_wf y0 y1 y2 y3 y4 y5 to0 6 fr0)) ∧ Fr n0 L ∧ h = h0
set_option maxRecDepth 65536 in
set_option maxHeartbeats 40000000 in
theorem rm_wf (l : Launch) (Z : State) (a0 : Array Value) (hw : ∀ d ∈ tables_1, d.before a0 Z = true) (ws : List Jvm.Cond) (a : Addr) (k : ClassId) (y0 : Int32) (y1 : Int32) (y2 : Int32) (y3 : Int32) (y4 : Int32) (y5 : Int32) (fr0 : Int32) (to0 : Int32) (h0 : Heap) (n0 : Nat) (Z0 : n0 ≤ h0.size) (V : Arv Z h0 a k .byte 6 [(.int y0), (.int y1), (.int y2), (.int y3), (.int y4), (.int y5)] (.int (0 : Int32))) (hto : to0.toInt ≤ 6) (hfr : 0 ≤ fr0.toInt ∧ fr0.toInt ≤ to0.toInt) :
    MetFree l (⟨"com/example/entryway/entryway/format/Source", "wellFormedUtf8", "([BII)Z"⟩ : MethodName) (head1 (Jvm.Cond.code (⟨"com/example/entryway/entryway/format/Source", "wellFormedUtf8", "([BII)Z"⟩ : MethodName) prog_68_method_11_code 11 (some .boolean) :: ws) ({ frames := 0, cells := 0, slots := 0, locals := 0 } : Room)) (fun aA U => aA = #[(.ref a), (.int fr0), (.int to0)] ∧ Z.Warmed39 U.vm ∧ U.heap = h0) (fun _ _ _ _ _ => True) (fun _ U o U' => ∃ v L, o = .returned v ∧ Q_wf Z y0 y1 y2 y3 y4 y5 fr0 to0 h0 n0 v U'.heap L ∧ FrameEnd U o U' L ({ frames := 0, cells := 0, slots := 0, locals := 0 } : Room).cells ({ frames := 0, cells := 0, slots := 0, locals := 0 } : Room).slots) := by
  refine MetFree.of_bodySF (plainFor_of_name own_pn_com_example_entryway_entryway_format_Source) hisR ?_
  intro p e s m args below meth c s₁ Bd hml0 hP hK
  obtain ⟨rfl, hZ, hh⟩ := hP
  have hx := Bd.exec
  have hby := Bd.bytes
  have hlk : meth.locks = false := BodyLoose.notSynchronized Bd
  have hml : c.maxLocals = 11 := hml0
  have hown : s.vm.findClass "com/example/entryway/entryway/format/Source" = some m.cls := findClass_of_methodNamed Bd.named
  have hnm := (name_of_methodNamed Bd.named Bd.method).1
  have X0 : Stand p l e ({ frames := 0, cells := 0, slots := 0, locals := 0 } : Room) s m #[(.ref a), (.int fr0), (.int to0)] below meth c s₁ [] 0 0 := Stand.of_body Bd
  have e0 : s₁.heap = h0 := by rw [← hh, Bd.state]; rfl
  have N0 := Fr.nil n0
  show own_Go p e below (own_K s (Q_wf Z y0 y1 y2 y3 y4 y5 fr0 to0 h0 n0) ({ frames := 0, cells := 0, slots := 0, locals := 0 } : Room).cells ({ frames := 0, cells := 0, slots := 0, locals := 0 } : Room).slots) (s₁.setTop (entryFrame m #[(.ref a), (.int fr0), (.int to0)] 11))
  rw [(by first | (simp [entryFrame, mkF, argsToLocals, Value.category]; done) | rfl : entryFrame m #[(.ref a), (.int fr0), (.int to0)] 11 = mkF m 0 #[.val (.ref a), .val (.int fr0), .val (.int to0), .unset, .unset, .unset, .unset, .unset, .unset, .unset, .unset] [])]
  show own_Go p e below _ (s₁.setTop (mkF m 0 #[.val (.ref a), .val (.int fr0), .val (.int to0), .unset, .unset, .unset, .unset, .unset, .unset, .unset, .unset] []))
  refine own_go (fun _ hr => XS.iloadN X0.here hx rfl (hb hby own_d_prog_68_method_11_code_0) rfl (XS.istoreN X0.here hx rfl (hb hby own_d_prog_68_method_11_code_1) rfl (l' := #[.val (.ref a), .val (.int fr0), .val (.int to0), .val (.int fr0), .unset, .unset, .unset, .unset, .unset, .unset, .unset]) rfl hr)) ?_
  show own_Go p e below _ (s₁.setTop (mkF m 2 #[.val (.ref a), .val (.int fr0), .val (.int to0), .val (.int fr0), .unset, .unset, .unset, .unset, .unset, .unset, .unset] []))
  have loop : ∀ (k : Nat) (i : Int32) (s4 s5 s6 s7 s8 s9 s10 : Slot), One s4 → One s5 → One s6 → One s7 → One s8 → One s9 → One s10 → 0 ≤ i.toInt → i.toInt ≤ to0.toInt → to0.toInt - i.toInt ≤ k → own_wf y0 y1 y2 y3 y4 y5 to0 k i = own_wf y0 y1 y2 y3 y4 y5 to0 6 fr0 → own_Go p e below (own_K s (Q_wf Z y0 y1 y2 y3 y4 y5 fr0 to0 h0 n0) ({ frames := 0, cells := 0, slots := 0, locals := 0 } : Room).cells ({ frames := 0, cells := 0, slots := 0, locals := 0 } : Room).slots) (s₁.setTop (mkF m 2 #[.val (.ref a), .val (.int fr0), .val (.int to0), .val (.int i), s4, s5, s6, s7, s8, s9, s10] [])) := by
    intro k
    induction k using Nat.strongRecOn with
    | _ k ih =>
      intro i s4 s5 s6 s7 s8 s9 s10 o4 o5 o6 o7 o8 o9 o10 h1 h2 h3 hR
      have hz : ¬ i < 0 := by rw [Int32.lt_iff_toInt_lt]; simp; omega
      show own_Go p e below _ (s₁.setTop (mkF m 2 #[.val (.ref a), .val (.int fr0), .val (.int to0), .val (.int i), s4, s5, s6, s7, s8, s9, s10] []))
      refine own_go (fun _ hr => XS.iloadN X0.here hx rfl (hb hby own_d_prog_68_method_11_code_2) rfl (XS.iloadN X0.here hx rfl (hb hby own_d_prog_68_method_11_code_3) rfl hr)) ?_
      show own_Go p e below _ (s₁.setTop (mkF m 4 #[.val (.ref a), .val (.int fr0), .val (.int to0), .val (.int i), s4, s5, s6, s7, s8, s9, s10] [(.int to0), (.int i)]))
      rcases Classical.em (i < to0) with c1 | c1
      · skip
        refine own_go (fun _ hr => XS.icmpNo X0.here hx rfl (hb hby own_d_prog_68_method_11_code_4) rfl (tlt c1).2.1 hr) ?_
        show own_Go p e below _ (s₁.setTop (mkF m 7 #[.val (.ref a), .val (.int fr0), .val (.int to0), .val (.int i), s4, s5, s6, s7, s8, s9, s10] []))
        refine own_go (fun _ hr => XS.aloadN X0.here hx rfl (hb hby own_d_prog_68_method_11_code_7) rfl rfl (XS.iloadN X0.here hx rfl (hb hby own_d_prog_68_method_11_code_8) rfl (XS.iinc X0.here hx rfl (hb hby own_d_prog_68_method_11_code_9) rfl (l' := #[.val (.ref a), .val (.int fr0), .val (.int to0), .val (.int (i + (1 : Int32))), s4, s5, s6, s7, s8, s9, s10]) rfl (own_baload X0 hx hZ e0 V i (.int (own_at y0 y1 y2 y3 y4 y5 i)) (own_in0 hz c1 hto) (own_get y0 y1 y2 y3 y4 y5 _ (own_in0 hz c1 hto)) rfl rfl (hb hby own_d_prog_68_method_11_code_12) (XS.sipush X0.here hx rfl (hb hby own_d_prog_68_method_11_code_13) (XS.iand X0.here hx rfl (hb hby own_d_prog_68_method_11_code_16) rfl (XS.istoreS X0.here hx rfl (hb hby own_d_prog_68_method_11_code_17) rfl rfl o4 (XS.iload X0.here hx rfl (hb hby own_d_prog_68_method_11_code_19) rfl (XS.sipush X0.here hx rfl (hb hby own_d_prog_68_method_11_code_21) hr))))))))) ?_
        show own_Go p e below _ (s₁.setTop (mkF m 24 #[.val (.ref a), .val (.int fr0), .val (.int to0), .val (.int (i + (1 : Int32))), .val (.int ((own_at y0 y1 y2 y3 y4 y5 i) &&& (255 : Int32))), s5, s6, s7, s8, s9, s10] [(.int (128 : Int32)), (.int ((own_at y0 y1 y2 y3 y4 y5 i) &&& (255 : Int32)))]))
        rcases Classical.em (((own_at y0 y1 y2 y3 y4 y5 i) &&& (255 : Int32)) < (128 : Int32)) with c2 | c2
        · skip
          refine own_go (fun _ hr => XS.icmpNo X0.here hx rfl (hb hby own_d_prog_68_method_11_code_24) rfl (tlt c2).2.1 hr) ?_
          show own_Go p e below _ (s₁.setTop (mkF m 27 #[.val (.ref a), .val (.int fr0), .val (.int to0), .val (.int (i + (1 : Int32))), .val (.int ((own_at y0 y1 y2 y3 y4 y5 i) &&& (255 : Int32))), s5, s6, s7, s8, s9, s10] []))
          refine own_go (fun _ hr => XS.goto X0.here hx rfl (pc0 := 27) (pc' := 2) rfl (hb hby own_d_prog_68_method_11_code_27) (by decide) (by decide) hr) ?_
          show own_Go p e below _ (s₁.setTop (mkF m 2 #[.val (.ref a), .val (.int fr0), .val (.int to0), .val (.int (i + (1 : Int32))), .val (.int ((own_at y0 y1 y2 y3 y4 y5 i) &&& (255 : Int32))), s5, s6, s7, s8, s9, s10] []))
          have ht : own_turn y0 y1 y2 y3 y4 y5 i to0 = (i + (1 : Int32)) := by unfold own_turn; rw [if_pos c2]
          obtain ⟨k', rfl⟩ : ∃ k', k = k' + 1 := ⟨k - 1, by have q := c1; rw [Int32.lt_iff_toInt_lt] at q; omega⟩
          have hb : i.toInt < ((i + (1 : Int32))).toInt ∧ ((i + (1 : Int32))).toInt ≤ to0.toInt ∧ ¬ (i + (1 : Int32)) = -1 := by
            have q0 := rng32 i
            have q1 := c_iadd i (1 : Int32)
            have r1 := rng32 (i + (1 : Int32))
            have q2 := rng32 to0
            have q3 := c_isub to0 (i + (1 : Int32))
            have r3 := rng32 (to0 - (i + (1 : Int32)))
            have p0 := c1
            simp only [true_implies, Int32.lt_iff_toInt_lt, ← Int32.toInt_inj, Int32.reduceToInt, Int64.lt_iff_toInt_lt, ← Int64.toInt_inj, Int64.reduceToInt] at q0 q1 q2 q3 p0 ⊢
            omega
          exact ih k' (Nat.lt_succ_self _) (i + (1 : Int32)) _ _ _ _ _ _ _ (One.val rfl) o5 o6 o7 o8 o9 o10 (by omega) hb.2.1 (by omega) ((own_wf_on y0 y1 y2 y3 y4 y5 to0 k' i _ c1 ht hb.2.2).symm.trans hR)
        refine own_go (fun _ hr => XS.icmpYes X0.here hx rfl (pc0 := 24) (pc' := 30) rfl (hb hby own_d_prog_68_method_11_code_24) rfl (flt c2).2.1 (by decide) (by decide) hr) ?_
        show own_Go p e below _ (s₁.setTop (mkF m 30 #[.val (.ref a), .val (.int fr0), .val (.int to0), .val (.int (i + (1 : Int32))), .val (.int ((own_at y0 y1 y2 y3 y4 y5 i) &&& (255 : Int32))), s5, s6, s7, s8, s9, s10] []))
        refine own_go (fun _ hr => XS.sipush X0.here hx rfl (hb hby own_d_prog_68_method_11_code_30) (XS.istoreS X0.here hx rfl (hb hby own_d_prog_68_method_11_code_33) rfl rfl o6 (XS.sipush X0.here hx rfl (hb hby own_d_prog_68_method_11_code_35) (XS.istoreS X0.here hx rfl (hb hby own_d_prog_68_method_11_code_38) rfl rfl o7 (XS.iload X0.here hx rfl (hb hby own_d_prog_68_method_11_code_40) rfl (XS.sipush X0.here hx rfl (hb hby own_d_prog_68_method_11_code_42) hr)))))) ?_
        show own_Go p e below _ (s₁.setTop (mkF m 45 #[.val (.ref a), .val (.int fr0), .val (.int to0), .val (.int (i + (1 : Int32))), .val (.int ((own_at y0 y1 y2 y3 y4 y5 i) &&& (255 : Int32))), s5, .val (.int (128 : Int32)), .val (.int (191 : Int32)), s8, s9, s10] [(.int (194 : Int32)), (.int ((own_at y0 y1 y2 y3 y4 y5 i) &&& (255 : Int32)))]))
        rcases Classical.em (((own_at y0 y1 y2 y3 y4 y5 i) &&& (255 : Int32)) < (194 : Int32)) with c3 | c3
        · skip
          refine own_go (fun _ hr => XS.icmpYes X0.here hx rfl (pc0 := 45) (pc' := 62) rfl (hb hby own_d_prog_68_method_11_code_45) rfl (tlt c3).1 (by decide) (by decide) hr) ?_
          show own_Go p e below _ (s₁.setTop (mkF m 62 #[.val (.ref a), .val (.int fr0), .val (.int to0), .val (.int (i + (1 : Int32))), .val (.int ((own_at y0 y1 y2 y3 y4 y5 i) &&& (255 : Int32))), s5, .val (.int (128 : Int32)), .val (.int (191 : Int32)), s8, s9, s10] []))
          refine own_go (fun _ hr => XS.iload X0.here hx rfl (hb hby own_d_prog_68_method_11_code_62) rfl (XS.sipush X0.here hx rfl (hb hby own_d_prog_68_method_11_code_64) hr)) ?_
          show own_Go p e below _ (s₁.setTop (mkF m 67 #[.val (.ref a), .val (.int fr0), .val (.int to0), .val (.int (i + (1 : Int32))), .val (.int ((own_at y0 y1 y2 y3 y4 y5 i) &&& (255 : Int32))), s5, .val (.int (128 : Int32)), .val (.int (191 : Int32)), s8, s9, s10] [(.int (224 : Int32)), (.int ((own_at y0 y1 y2 y3 y4 y5 i) &&& (255 : Int32)))]))
          have c4 : ((own_at y0 y1 y2 y3 y4 y5 i) &&& (255 : Int32)) < (224 : Int32) := by
            have q0 := rng32 i
            have q1 := rng32 to0
            have q2 := rng32 y0
            have q3 := rng32 y1
            have q4 := rng32 y2
            have q5 := rng32 y3
            have q6 := rng32 y4
            have q7 := rng32 y5
            have q8 := rng32 (own_at y0 y1 y2 y3 y4 y5 i)
            have q9 := c_mask (own_at y0 y1 y2 y3 y4 y5 i) (255 : Int32) 8 (by decide) (by decide)
            have p0 := c1
            have p1 := c2
            have p2 := c3
            simp only [true_implies, Int32.lt_iff_toInt_lt, ← Int32.toInt_inj, Int32.reduceToInt, Int64.lt_iff_toInt_lt, ← Int64.toInt_inj, Int64.reduceToInt] at q0 q1 q2 q3 q4 q5 q6 q7 q8 q9 p0 p1 p2 ⊢
            omega
          refine own_go (fun _ hr => XS.icmpYes X0.here hx rfl (pc0 := 67) (pc' := 120) rfl (hb hby own_d_prog_68_method_11_code_67) rfl (tlt c4).1 (by decide) (by decide) hr) ?_
          show own_Go p e below _ (s₁.setTop (mkF m 120 #[.val (.ref a), .val (.int fr0), .val (.int to0), .val (.int (i + (1 : Int32))), .val (.int ((own_at y0 y1 y2 y3 y4 y5 i) &&& (255 : Int32))), s5, .val (.int (128 : Int32)), .val (.int (191 : Int32)), s8, s9, s10] []))
          refine own_go (fun _ hr => XS.iload X0.here hx rfl (hb hby own_d_prog_68_method_11_code_120) rfl (XS.sipush X0.here hx rfl (hb hby own_d_prog_68_method_11_code_122) hr)) ?_
          show own_Go p e below _ (s₁.setTop (mkF m 125 #[.val (.ref a), .val (.int fr0), .val (.int to0), .val (.int (i + (1 : Int32))), .val (.int ((own_at y0 y1 y2 y3 y4 y5 i) &&& (255 : Int32))), s5, .val (.int (128 : Int32)), .val (.int (191 : Int32)), s8, s9, s10] [(.int (240 : Int32)), (.int ((own_at y0 y1 y2 y3 y4 y5 i) &&& (255 : Int32)))]))
          have c5 : ((own_at y0 y1 y2 y3 y4 y5 i) &&& (255 : Int32)) < (240 : Int32) := by
            have q0 := rng32 i
            have q1 := rng32 to0
            have q2 := rng32 y0
            have q3 := rng32 y1
            have q4 := rng32 y2
            have q5 := rng32 y3
            have q6 := rng32 y4
            have q7 := rng32 y5
            have q8 := rng32 (own_at y0 y1 y2 y3 y4 y5 i)
            have q9 := c_mask (own_at y0 y1 y2 y3 y4 y5 i) (255 : Int32) 8 (by decide) (by decide)
            have p0 := c1
            have p1 := c2
            have p2 := c3
            have p3 := c4
            simp only [true_implies, Int32.lt_iff_toInt_lt, ← Int32.toInt_inj, Int32.reduceToInt, Int64.lt_iff_toInt_lt, ← Int64.toInt_inj, Int64.reduceToInt] at q0 q1 q2 q3 q4 q5 q6 q7 q8 q9 p0 p1 p2 p3 ⊢
            omega
          refine own_go (fun _ hr => XS.icmpYes X0.here hx rfl (pc0 := 125) (pc' := 178) rfl (hb hby own_d_prog_68_method_11_code_125) rfl (tlt c5).1 (by decide) (by decide) hr) ?_
          show own_Go p e below _ (s₁.setTop (mkF m 178 #[.val (.ref a), .val (.int fr0), .val (.int to0), .val (.int (i + (1 : Int32))), .val (.int ((own_at y0 y1 y2 y3 y4 y5 i) &&& (255 : Int32))), s5, .val (.int (128 : Int32)), .val (.int (191 : Int32)), s8, s9, s10] []))
          refine own_go (fun _ hr => XS.iconst X0.here hx rfl (hb hby own_d_prog_68_method_11_code_178) hr) ?_
          show own_Go p e below _ (s₁.setTop (mkF m 179 #[.val (.ref a), .val (.int fr0), .val (.int to0), .val (.int (i + (1 : Int32))), .val (.int ((own_at y0 y1 y2 y3 y4 y5 i) &&& (255 : Int32))), s5, .val (.int (128 : Int32)), .val (.int (191 : Int32)), s8, s9, s10] [(.int (0 : Int32))]))
          have ht : own_turn y0 y1 y2 y3 y4 y5 i to0 = -1 := by unfold own_turn; rw [if_neg c2, if_pos c3]
          obtain ⟨k', rfl⟩ : ∃ k', k = k' + 1 := ⟨k - 1, by have q := c1; rw [Int32.lt_iff_toInt_lt] at q; omega⟩
          exact own_retN X0 hx hlk Bd.returns (t := .boolean) (by simp) (hb hby own_d_prog_68_method_11_code_179) (by decide) (by decide) ⟨(congrArg (fun q => some (Value.int q)) (show (0 : Int32) = own_wf y0 y1 y2 y3 y4 y5 to0 6 fr0 from ((own_wf_bad y0 y1 y2 y3 y4 y5 to0 k' i c1 ht)).symm.trans hR)), N0, e0⟩
        refine own_go (fun _ hr => XS.icmpNo X0.here hx rfl (hb hby own_d_prog_68_method_11_code_45) rfl (flt c3).1 hr) ?_
        show own_Go p e below _ (s₁.setTop (mkF m 48 #[.val (.ref a), .val (.int fr0), .val (.int to0), .val (.int (i + (1 : Int32))), .val (.int ((own_at y0 y1 y2 y3 y4 y5 i) &&& (255 : Int32))), s5, .val (.int (128 : Int32)), .val (.int (191 : Int32)), s8, s9, s10] []))
        refine own_go (fun _ hr => XS.iload X0.here hx rfl (hb hby own_d_prog_68_method_11_code_48) rfl (XS.sipush X0.here hx rfl (hb hby own_d_prog_68_method_11_code_50) hr)) ?_
        show own_Go p e below _ (s₁.setTop (mkF m 53 #[.val (.ref a), .val (.int fr0), .val (.int to0), .val (.int (i + (1 : Int32))), .val (.int ((own_at y0 y1 y2 y3 y4 y5 i) &&& (255 : Int32))), s5, .val (.int (128 : Int32)), .val (.int (191 : Int32)), s8, s9, s10] [(.int (223 : Int32)), (.int ((own_at y0 y1 y2 y3 y4 y5 i) &&& (255 : Int32)))]))
        rcases Classical.em ((223 : Int32) < ((own_at y0 y1 y2 y3 y4 y5 i) &&& (255 : Int32))) with c6 | c6
        · skip
          refine own_go (fun _ hr => XS.icmpYes X0.here hx rfl (pc0 := 53) (pc' := 62) rfl (hb hby own_d_prog_68_method_11_code_53) rfl (tlt c6).2.2.1 (by decide) (by decide) hr) ?_
          show own_Go p e below _ (s₁.setTop (mkF m 62 #[.val (.ref a), .val (.int fr0), .val (.int to0), .val (.int (i + (1 : Int32))), .val (.int ((own_at y0 y1 y2 y3 y4 y5 i) &&& (255 : Int32))), s5, .val (.int (128 : Int32)), .val (.int (191 : Int32)), s8, s9, s10] []))
          refine own_go (fun _ hr => XS.iload X0.here hx rfl (hb hby own_d_prog_68_method_11_code_62) rfl (XS.sipush X0.here hx rfl (hb hby own_d_prog_68_method_11_code_64) hr)) ?_
          show own_Go p e below _ (s₁.setTop (mkF m 67 #[.val (.ref a), .val (.int fr0), .val (.int to0), .val (.int (i + (1 : Int32))), .val (.int ((own_at y0 y1 y2 y3 y4 y5 i) &&& (255 : Int32))), s5, .val (.int (128 : Int32)), .val (.int (191 : Int32)), s8, s9, s10] [(.int (224 : Int32)), (.int ((own_at y0 y1 y2 y3 y4 y5 i) &&& (255 : Int32)))]))
          have c7 : ¬ (((own_at y0 y1 y2 y3 y4 y5 i) &&& (255 : Int32)) < (224 : Int32)) := by
            have q0 := rng32 i
            have q1 := rng32 to0
            have q2 := rng32 y0
            have q3 := rng32 y1
            have q4 := rng32 y2
            have q5 := rng32 y3
            have q6 := rng32 y4
            have q7 := rng32 y5
            have q8 := rng32 (own_at y0 y1 y2 y3 y4 y5 i)
            have q9 := c_mask (own_at y0 y1 y2 y3 y4 y5 i) (255 : Int32) 8 (by decide) (by decide)
            have p0 := c1
            have p1 := c2
            have p2 := c3
            have p3 := c6
            simp only [true_implies, Int32.lt_iff_toInt_lt, ← Int32.toInt_inj, Int32.reduceToInt, Int64.lt_iff_toInt_lt, ← Int64.toInt_inj, Int64.reduceToInt] at q0 q1 q2 q3 q4 q5 q6 q7 q8 q9 p0 p1 p2 p3 ⊢
            omega
          refine own_go (fun _ hr => XS.icmpNo X0.here hx rfl (hb hby own_d_prog_68_method_11_code_67) rfl (flt c7).1 hr) ?_
          show own_Go p e below _ (s₁.setTop (mkF m 70 #[.val (.ref a), .val (.int fr0), .val (.int to0), .val (.int (i + (1 : Int32))), .val (.int ((own_at y0 y1 y2 y3 y4 y5 i) &&& (255 : Int32))), s5, .val (.int (128 : Int32)), .val (.int (191 : Int32)), s8, s9, s10] []))
          refine own_go (fun _ hr => XS.iload X0.here hx rfl (hb hby own_d_prog_68_method_11_code_70) rfl (XS.sipush X0.here hx rfl (hb hby own_d_prog_68_method_11_code_72) hr)) ?_
          show own_Go p e below _ (s₁.setTop (mkF m 75 #[.val (.ref a), .val (.int fr0), .val (.int to0), .val (.int (i + (1 : Int32))), .val (.int ((own_at y0 y1 y2 y3 y4 y5 i) &&& (255 : Int32))), s5, .val (.int (128 : Int32)), .val (.int (191 : Int32)), s8, s9, s10] [(.int (239 : Int32)), (.int ((own_at y0 y1 y2 y3 y4 y5 i) &&& (255 : Int32)))]))
          rcases Classical.em ((239 : Int32) < ((own_at y0 y1 y2 y3 y4 y5 i) &&& (255 : Int32))) with c8 | c8
          · skip
            refine own_go (fun _ hr => XS.icmpYes X0.here hx rfl (pc0 := 75) (pc' := 120) rfl (hb hby own_d_prog_68_method_11_code_75) rfl (tlt c8).2.2.1 (by decide) (by decide) hr) ?_
            show own_Go p e below _ (s₁.setTop (mkF m 120 #[.val (.ref a), .val (.int fr0), .val (.int to0), .val (.int (i + (1 : Int32))), .val (.int ((own_at y0 y1 y2 y3 y4 y5 i) &&& (255 : Int32))), s5, .val (.int (128 : Int32)), .val (.int (191 : Int32)), s8, s9, s10] []))
            refine own_go (fun _ hr => XS.iload X0.here hx rfl (hb hby own_d_prog_68_method_11_code_120) rfl (XS.sipush X0.here hx rfl (hb hby own_d_prog_68_method_11_code_122) hr)) ?_
            show own_Go p e below _ (s₁.setTop (mkF m 125 #[.val (.ref a), .val (.int fr0), .val (.int to0), .val (.int (i + (1 : Int32))), .val (.int ((own_at y0 y1 y2 y3 y4 y5 i) &&& (255 : Int32))), s5, .val (.int (128 : Int32)), .val (.int (191 : Int32)), s8, s9, s10] [(.int (240 : Int32)), (.int ((own_at y0 y1 y2 y3 y4 y5 i) &&& (255 : Int32)))]))
            have c9 : ¬ (((own_at y0 y1 y2 y3 y4 y5 i) &&& (255 : Int32)) < (240 : Int32)) := by
              have q0 := rng32 i
              have q1 := rng32 to0
              have q2 := rng32 y0
              have q3 := rng32 y1
              have q4 := rng32 y2
              have q5 := rng32 y3
              have q6 := rng32 y4
              have q7 := rng32 y5
              have q8 := rng32 (own_at y0 y1 y2 y3 y4 y5 i)
              have q9 := c_mask (own_at y0 y1 y2 y3 y4 y5 i) (255 : Int32) 8 (by decide) (by decide)
              have p0 := c1
              have p1 := c2
              have p2 := c3
              have p3 := c6
              have p4 := c7
              have p5 := c8
              simp only [true_implies, Int32.lt_iff_toInt_lt, ← Int32.toInt_inj, Int32.reduceToInt, Int64.lt_iff_toInt_lt, ← Int64.toInt_inj, Int64.reduceToInt] at q0 q1 q2 q3 q4 q5 q6 q7 q8 q9 p0 p1 p2 p3 p4 p5 ⊢
              omega
            refine own_go (fun _ hr => XS.icmpNo X0.here hx rfl (hb hby own_d_prog_68_method_11_code_125) rfl (flt c9).1 hr) ?_
            show own_Go p e below _ (s₁.setTop (mkF m 128 #[.val (.ref a), .val (.int fr0), .val (.int to0), .val (.int (i + (1 : Int32))), .val (.int ((own_at y0 y1 y2 y3 y4 y5 i) &&& (255 : Int32))), s5, .val (.int (128 : Int32)), .val (.int (191 : Int32)), s8, s9, s10] []))
            refine own_go (fun _ hr => XS.iload X0.here hx rfl (hb hby own_d_prog_68_method_11_code_128) rfl (XS.sipush X0.here hx rfl (hb hby own_d_prog_68_method_11_code_130) hr)) ?_
            show own_Go p e below _ (s₁.setTop (mkF m 133 #[.val (.ref a), .val (.int fr0), .val (.int to0), .val (.int (i + (1 : Int32))), .val (.int ((own_at y0 y1 y2 y3 y4 y5 i) &&& (255 : Int32))), s5, .val (.int (128 : Int32)), .val (.int (191 : Int32)), s8, s9, s10] [(.int (244 : Int32)), (.int ((own_at y0 y1 y2 y3 y4 y5 i) &&& (255 : Int32)))]))
            rcases Classical.em ((244 : Int32) < ((own_at y0 y1 y2 y3 y4 y5 i) &&& (255 : Int32))) with c10 | c10
            · skip
              refine own_go (fun _ hr => XS.icmpYes X0.here hx rfl (pc0 := 133) (pc' := 178) rfl (hb hby own_d_prog_68_method_11_code_133) rfl (tlt c10).2.2.1 (by decide) (by decide) hr) ?_
              show own_Go p e below _ (s₁.setTop (mkF m 178 #[.val (.ref a), .val (.int fr0), .val (.int to0), .val (.int (i + (1 : Int32))), .val (.int ((own_at y0 y1 y2 y3 y4 y5 i) &&& (255 : Int32))), s5, .val (.int (128 : Int32)), .val (.int (191 : Int32)), s8, s9, s10] []))
              refine own_go (fun _ hr => XS.iconst X0.here hx rfl (hb hby own_d_prog_68_method_11_code_178) hr) ?_
              show own_Go p e below _ (s₁.setTop (mkF m 179 #[.val (.ref a), .val (.int fr0), .val (.int to0), .val (.int (i + (1 : Int32))), .val (.int ((own_at y0 y1 y2 y3 y4 y5 i) &&& (255 : Int32))), s5, .val (.int (128 : Int32)), .val (.int (191 : Int32)), s8, s9, s10] [(.int (0 : Int32))]))
              have ht : own_turn y0 y1 y2 y3 y4 y5 i to0 = -1 := by unfold own_turn; rw [if_neg c2, if_neg c3, if_pos c6, if_pos c8, if_pos c10]
              obtain ⟨k', rfl⟩ : ∃ k', k = k' + 1 := ⟨k - 1, by have q := c1; rw [Int32.lt_iff_toInt_lt] at q; omega⟩
              exact own_retN X0 hx hlk Bd.returns (t := .boolean) (by simp) (hb hby own_d_prog_68_method_11_code_179) (by decide) (by decide) ⟨(congrArg (fun q => some (Value.int q)) (show (0 : Int32) = own_wf y0 y1 y2 y3 y4 y5 to0 6 fr0 from ((own_wf_bad y0 y1 y2 y3 y4 y5 to0 k' i c1 ht)).symm.trans hR)), N0, e0⟩
            refine own_go (fun _ hr => XS.icmpNo X0.here hx rfl (hb hby own_d_prog_68_method_11_code_133) rfl (flt c10).2.2.1 hr) ?_
            show own_Go p e below _ (s₁.setTop (mkF m 136 #[.val (.ref a), .val (.int fr0), .val (.int to0), .val (.int (i + (1 : Int32))), .val (.int ((own_at y0 y1 y2 y3 y4 y5 i) &&& (255 : Int32))), s5, .val (.int (128 : Int32)), .val (.int (191 : Int32)), s8, s9, s10] []))
            refine own_go (fun _ hr => XS.iconst X0.here hx rfl (hb hby own_d_prog_68_method_11_code_136) (XS.istoreS X0.here hx rfl (hb hby own_d_prog_68_method_11_code_137) rfl rfl o5 (XS.iload X0.here hx rfl (hb hby own_d_prog_68_method_11_code_139) rfl (XS.sipush X0.here hx rfl (hb hby own_d_prog_68_method_11_code_141) hr)))) ?_
            show own_Go p e below _ (s₁.setTop (mkF m 144 #[.val (.ref a), .val (.int fr0), .val (.int to0), .val (.int (i + (1 : Int32))), .val (.int ((own_at y0 y1 y2 y3 y4 y5 i) &&& (255 : Int32))), .val (.int (3 : Int32)), .val (.int (128 : Int32)), .val (.int (191 : Int32)), s8, s9, s10] [(.int (240 : Int32)), (.int ((own_at y0 y1 y2 y3 y4 y5 i) &&& (255 : Int32)))]))
            rcases Classical.em (((own_at y0 y1 y2 y3 y4 y5 i) &&& (255 : Int32)) = (240 : Int32)) with c11 | c11
            · skip
              refine own_go (fun _ hr => XS.icmpNo X0.here hx rfl (hb hby own_d_prog_68_method_11_code_144) rfl (teq c11).2 hr) ?_
              show own_Go p e below _ (s₁.setTop (mkF m 147 #[.val (.ref a), .val (.int fr0), .val (.int to0), .val (.int (i + (1 : Int32))), .val (.int ((own_at y0 y1 y2 y3 y4 y5 i) &&& (255 : Int32))), .val (.int (3 : Int32)), .val (.int (128 : Int32)), .val (.int (191 : Int32)), s8, s9, s10] []))
              refine own_go (fun _ hr => XS.sipush X0.here hx rfl (hb hby own_d_prog_68_method_11_code_147) (XS.goto X0.here hx rfl (pc0 := 150) (pc' := 155) rfl (hb hby own_d_prog_68_method_11_code_150) (by decide) (by decide) (XS.istore X0.here hx rfl (hb hby own_d_prog_68_method_11_code_155) rfl (l' := #[.val (.ref a), .val (.int fr0), .val (.int to0), .val (.int (i + (1 : Int32))), .val (.int ((own_at y0 y1 y2 y3 y4 y5 i) &&& (255 : Int32))), .val (.int (3 : Int32)), .val (.int (144 : Int32)), .val (.int (191 : Int32)), s8, s9, s10]) rfl (XS.iload X0.here hx rfl (hb hby own_d_prog_68_method_11_code_157) rfl (XS.sipush X0.here hx rfl (hb hby own_d_prog_68_method_11_code_159) hr))))) ?_
              show own_Go p e below _ (s₁.setTop (mkF m 162 #[.val (.ref a), .val (.int fr0), .val (.int to0), .val (.int (i + (1 : Int32))), .val (.int ((own_at y0 y1 y2 y3 y4 y5 i) &&& (255 : Int32))), .val (.int (3 : Int32)), .val (.int (144 : Int32)), .val (.int (191 : Int32)), s8, s9, s10] [(.int (244 : Int32)), (.int ((own_at y0 y1 y2 y3 y4 y5 i) &&& (255 : Int32)))]))
              have c12 : ¬ (((own_at y0 y1 y2 y3 y4 y5 i) &&& (255 : Int32)) = (244 : Int32)) := by
                have q0 := rng32 i
                have q1 := rng32 to0
                have q2 := rng32 y0
                have q3 := rng32 y1
                have q4 := rng32 y2
                have q5 := rng32 y3
                have q6 := rng32 y4
                have q7 := rng32 y5
                have q8 := rng32 (own_at y0 y1 y2 y3 y4 y5 i)
                have q9 := c_mask (own_at y0 y1 y2 y3 y4 y5 i) (255 : Int32) 8 (by decide) (by decide)
                have p0 := c1
                have p1 := c2
                have p2 := c3
                have p3 := c6
                have p4 := c7
                have p5 := c8
                have p6 := c9
                have p7 := c10
                have p8 := c11
                simp only [true_implies, Int32.lt_iff_toInt_lt, ← Int32.toInt_inj, Int32.reduceToInt, Int64.lt_iff_toInt_lt, ← Int64.toInt_inj, Int64.reduceToInt] at q0 q1 q2 q3 q4 q5 q6 q7 q8 q9 p0 p1 p2 p3 p4 p5 p6 p7 p8 ⊢
                omega
              refine own_go (fun _ hr => XS.icmpYes X0.here hx rfl (pc0 := 162) (pc' := 171) rfl (hb hby own_d_prog_68_method_11_code_162) rfl (feq c12).2 (by decide) (by decide) hr) ?_
              show own_Go p e below _ (s₁.setTop (mkF m 171 #[.val (.ref a), .val (.int fr0), .val (.int to0), .val (.int (i + (1 : Int32))), .val (.int ((own_at y0 y1 y2 y3 y4 y5 i) &&& (255 : Int32))), .val (.int (3 : Int32)), .val (.int (144 : Int32)), .val (.int (191 : Int32)), s8, s9, s10] []))
              refine own_go (fun _ hr => XS.iload X0.here hx rfl (hb hby own_d_prog_68_method_11_code_171) rfl (XS.istore X0.here hx rfl (hb hby own_d_prog_68_method_11_code_173) rfl (l' := #[.val (.ref a), .val (.int fr0), .val (.int to0), .val (.int (i + (1 : Int32))), .val (.int ((own_at y0 y1 y2 y3 y4 y5 i) &&& (255 : Int32))), .val (.int (3 : Int32)), .val (.int (144 : Int32)), .val (.int (191 : Int32)), s8, s9, s10]) rfl (XS.goto X0.here hx rfl (pc0 := 175) (pc' := 180) rfl (hb hby own_d_prog_68_method_11_code_175) (by decide) (by decide) (XS.iloadN X0.here hx rfl (hb hby own_d_prog_68_method_11_code_180) rfl (XS.iloadN X0.here hx rfl (hb hby own_d_prog_68_method_11_code_181) rfl (XS.isub X0.here hx rfl (hb hby own_d_prog_68_method_11_code_182) rfl (XS.iload X0.here hx rfl (hb hby own_d_prog_68_method_11_code_183) rfl hr))))))) ?_
              show own_Go p e below _ (s₁.setTop (mkF m 185 #[.val (.ref a), .val (.int fr0), .val (.int to0), .val (.int (i + (1 : Int32))), .val (.int ((own_at y0 y1 y2 y3 y4 y5 i) &&& (255 : Int32))), .val (.int (3 : Int32)), .val (.int (144 : Int32)), .val (.int (191 : Int32)), s8, s9, s10] [(.int (3 : Int32)), (.int (to0 - (i + (1 : Int32))))]))
              rcases Classical.em ((to0 - (i + (1 : Int32))) < (3 : Int32)) with c13 | c13
              · skip
                refine own_go (fun _ hr => XS.icmpNo X0.here hx rfl (hb hby own_d_prog_68_method_11_code_185) rfl (tlt c13).2.1 hr) ?_
                show own_Go p e below _ (s₁.setTop (mkF m 188 #[.val (.ref a), .val (.int fr0), .val (.int to0), .val (.int (i + (1 : Int32))), .val (.int ((own_at y0 y1 y2 y3 y4 y5 i) &&& (255 : Int32))), .val (.int (3 : Int32)), .val (.int (144 : Int32)), .val (.int (191 : Int32)), s8, s9, s10] []))
                refine own_go (fun _ hr => XS.iconst X0.here hx rfl (hb hby own_d_prog_68_method_11_code_188) hr) ?_
                show own_Go p e below _ (s₁.setTop (mkF m 189 #[.val (.ref a), .val (.int fr0), .val (.int to0), .val (.int (i + (1 : Int32))), .val (.int ((own_at y0 y1 y2 y3 y4 y5 i) &&& (255 : Int32))), .val (.int (3 : Int32)), .val (.int (144 : Int32)), .val (.int (191 : Int32)), s8, s9, s10] [(.int (0 : Int32))]))
                have ht : own_turn y0 y1 y2 y3 y4 y5 i to0 = -1 := by unfold own_turn; rw [if_neg c2, if_neg c3, if_pos c6, if_pos c8, if_neg c10, if_pos c11, if_pos c13]
                obtain ⟨k', rfl⟩ : ∃ k', k = k' + 1 := ⟨k - 1, by have q := c1; rw [Int32.lt_iff_toInt_lt] at q; omega⟩
                exact own_retN X0 hx hlk Bd.returns (t := .boolean) (by simp) (hb hby own_d_prog_68_method_11_code_189) (by decide) (by decide) ⟨(congrArg (fun q => some (Value.int q)) (show (0 : Int32) = own_wf y0 y1 y2 y3 y4 y5 to0 6 fr0 from ((own_wf_bad y0 y1 y2 y3 y4 y5 to0 k' i c1 ht)).symm.trans hR)), N0, e0⟩
              refine own_go (fun _ hr => XS.icmpYes X0.here hx rfl (pc0 := 185) (pc' := 190) rfl (hb hby own_d_prog_68_method_11_code_185) rfl (flt c13).2.1 (by decide) (by decide) hr) ?_
              show own_Go p e below _ (s₁.setTop (mkF m 190 #[.val (.ref a), .val (.int fr0), .val (.int to0), .val (.int (i + (1 : Int32))), .val (.int ((own_at y0 y1 y2 y3 y4 y5 i) &&& (255 : Int32))), .val (.int (3 : Int32)), .val (.int (144 : Int32)), .val (.int (191 : Int32)), s8, s9, s10] []))
              refine own_go (fun _ hr => XS.aloadN X0.here hx rfl (hb hby own_d_prog_68_method_11_code_190) rfl rfl (XS.iloadN X0.here hx rfl (hb hby own_d_prog_68_method_11_code_191) rfl (XS.iinc X0.here hx rfl (hb hby own_d_prog_68_method_11_code_192) rfl (l' := #[.val (.ref a), .val (.int fr0), .val (.int to0), .val (.int ((i + (1 : Int32)) + (1 : Int32))), .val (.int ((own_at y0 y1 y2 y3 y4 y5 i) &&& (255 : Int32))), .val (.int (3 : Int32)), .val (.int (144 : Int32)), .val (.int (191 : Int32)), s8, s9, s10]) rfl (own_baload X0 hx hZ e0 V (i + (1 : Int32)) (.int (own_at y0 y1 y2 y3 y4 y5 (i + (1 : Int32)))) (own_tin h1 c1 hto c13 (by decide)) (own_get y0 y1 y2 y3 y4 y5 _ (own_tin h1 c1 hto c13 (by decide))) rfl rfl (hb hby own_d_prog_68_method_11_code_195) (XS.sipush X0.here hx rfl (hb hby own_d_prog_68_method_11_code_196) (XS.iand X0.here hx rfl (hb hby own_d_prog_68_method_11_code_199) rfl (XS.istoreS X0.here hx rfl (hb hby own_d_prog_68_method_11_code_200) rfl rfl o8 (XS.iload X0.here hx rfl (hb hby own_d_prog_68_method_11_code_202) rfl (XS.iload X0.here hx rfl (hb hby own_d_prog_68_method_11_code_204) rfl hr))))))))) ?_
              show own_Go p e below _ (s₁.setTop (mkF m 206 #[.val (.ref a), .val (.int fr0), .val (.int to0), .val (.int ((i + (1 : Int32)) + (1 : Int32))), .val (.int ((own_at y0 y1 y2 y3 y4 y5 i) &&& (255 : Int32))), .val (.int (3 : Int32)), .val (.int (144 : Int32)), .val (.int (191 : Int32)), .val (.int ((own_at y0 y1 y2 y3 y4 y5 (i + (1 : Int32))) &&& (255 : Int32))), s9, s10] [(.int (144 : Int32)), (.int ((own_at y0 y1 y2 y3 y4 y5 (i + (1 : Int32))) &&& (255 : Int32)))]))
              rcases Classical.em (((own_at y0 y1 y2 y3 y4 y5 (i + (1 : Int32))) &&& (255 : Int32)) < (144 : Int32)) with c14 | c14
              · skip
                refine own_go (fun _ hr => XS.icmpYes X0.here hx rfl (pc0 := 206) (pc' := 216) rfl (hb hby own_d_prog_68_method_11_code_206) rfl (tlt c14).1 (by decide) (by decide) hr) ?_
                show own_Go p e below _ (s₁.setTop (mkF m 216 #[.val (.ref a), .val (.int fr0), .val (.int to0), .val (.int ((i + (1 : Int32)) + (1 : Int32))), .val (.int ((own_at y0 y1 y2 y3 y4 y5 i) &&& (255 : Int32))), .val (.int (3 : Int32)), .val (.int (144 : Int32)), .val (.int (191 : Int32)), .val (.int ((own_at y0 y1 y2 y3 y4 y5 (i + (1 : Int32))) &&& (255 : Int32))), s9, s10] []))
                refine own_go (fun _ hr => XS.iconst X0.here hx rfl (hb hby own_d_prog_68_method_11_code_216) hr) ?_
                show own_Go p e below _ (s₁.setTop (mkF m 217 #[.val (.ref a), .val (.int fr0), .val (.int to0), .val (.int ((i + (1 : Int32)) + (1 : Int32))), .val (.int ((own_at y0 y1 y2 y3 y4 y5 i) &&& (255 : Int32))), .val (.int (3 : Int32)), .val (.int (144 : Int32)), .val (.int (191 : Int32)), .val (.int ((own_at y0 y1 y2 y3 y4 y5 (i + (1 : Int32))) &&& (255 : Int32))), s9, s10] [(.int (0 : Int32))]))
                have ht : own_turn y0 y1 y2 y3 y4 y5 i to0 = -1 := by unfold own_turn; rw [if_neg c2, if_neg c3, if_pos c6, if_pos c8, if_neg c10, if_pos c11, if_neg c13, if_pos c14]
                obtain ⟨k', rfl⟩ : ∃ k', k = k' + 1 := ⟨k - 1, by have q := c1; rw [Int32.lt_iff_toInt_lt] at q; omega⟩
                exact own_retN X0 hx hlk Bd.returns (t := .boolean) (by simp) (hb hby own_d_prog_68_method_11_code_217) (by decide) (by decide) ⟨(congrArg (fun q => some (Value.int q)) (show (0 : Int32) = own_wf y0 y1 y2 y3 y4 y5 to0 6 fr0 from ((own_wf_bad y0 y1 y2 y3 y4 y5 to0 k' i c1 ht)).symm.trans hR)), N0, e0⟩
              refine own_go (fun _ hr => XS.icmpNo X0.here hx rfl (hb hby own_d_prog_68_method_11_code_206) rfl (flt c14).1 hr) ?_
              show own_Go p e below _ (s₁.setTop (mkF m 209 #[.val (.ref a), .val (.int fr0), .val (.int to0), .val (.int ((i + (1 : Int32)) + (1 : Int32))), .val (.int ((own_at y0 y1 y2 y3 y4 y5 i) &&& (255 : Int32))), .val (.int (3 : Int32)), .val (.int (144 : Int32)), .val (.int (191 : Int32)), .val (.int ((own_at y0 y1 y2 y3 y4 y5 (i + (1 : Int32))) &&& (255 : Int32))), s9, s10] []))
              refine own_go (fun _ hr => XS.iload X0.here hx rfl (hb hby own_d_prog_68_method_11_code_209) rfl (XS.iload X0.here hx rfl (hb hby own_d_prog_68_method_11_code_211) rfl hr)) ?_
              show own_Go p e below _ (s₁.setTop (mkF m 213 #[.val (.ref a), .val (.int fr0), .val (.int to0), .val (.int ((i + (1 : Int32)) + (1 : Int32))), .val (.int ((own_at y0 y1 y2 y3 y4 y5 i) &&& (255 : Int32))), .val (.int (3 : Int32)), .val (.int (144 : Int32)), .val (.int (191 : Int32)), .val (.int ((own_at y0 y1 y2 y3 y4 y5 (i + (1 : Int32))) &&& (255 : Int32))), s9, s10] [(.int (191 : Int32)), (.int ((own_at y0 y1 y2 y3 y4 y5 (i + (1 : Int32))) &&& (255 : Int32)))]))
              rcases Classical.em ((191 : Int32) < ((own_at y0 y1 y2 y3 y4 y5 (i + (1 : Int32))) &&& (255 : Int32))) with c15 | c15
              · skip
                refine own_go (fun _ hr => XS.icmpNo X0.here hx rfl (hb hby own_d_prog_68_method_11_code_213) rfl (tlt c15).2.2.2 hr) ?_
                show own_Go p e below _ (s₁.setTop (mkF m 216 #[.val (.ref a), .val (.int fr0), .val (.int to0), .val (.int ((i + (1 : Int32)) + (1 : Int32))), .val (.int ((own_at y0 y1 y2 y3 y4 y5 i) &&& (255 : Int32))), .val (.int (3 : Int32)), .val (.int (144 : Int32)), .val (.int (191 : Int32)), .val (.int ((own_at y0 y1 y2 y3 y4 y5 (i + (1 : Int32))) &&& (255 : Int32))), s9, s10] []))
                refine own_go (fun _ hr => XS.iconst X0.here hx rfl (hb hby own_d_prog_68_method_11_code_216) hr) ?_
                show own_Go p e below _ (s₁.setTop (mkF m 217 #[.val (.ref a), .val (.int fr0), .val (.int to0), .val (.int ((i + (1 : Int32)) + (1 : Int32))), .val (.int ((own_at y0 y1 y2 y3 y4 y5 i) &&& (255 : Int32))), .val (.int (3 : Int32)), .val (.int (144 : Int32)), .val (.int (191 : Int32)), .val (.int ((own_at y0 y1 y2 y3 y4 y5 (i + (1 : Int32))) &&& (255 : Int32))), s9, s10] [(.int (0 : Int32))]))
                have ht : own_turn y0 y1 y2 y3 y4 y5 i to0 = -1 := by unfold own_turn; rw [if_neg c2, if_neg c3, if_pos c6, if_pos c8, if_neg c10, if_pos c11, if_neg c13, if_neg c14, if_pos c15]
                obtain ⟨k', rfl⟩ : ∃ k', k = k' + 1 := ⟨k - 1, by have q := c1; rw [Int32.lt_iff_toInt_lt] at q; omega⟩
                exact own_retN X0 hx hlk Bd.returns (t := .boolean) (by simp) (hb hby own_d_prog_68_method_11_code_217) (by decide) (by decide) ⟨(congrArg (fun q => some (Value.int q)) (show (0 : Int32) = own_wf y0 y1 y2 y3 y4 y5 to0 6 fr0 from ((own_wf_bad y0 y1 y2 y3 y4 y5 to0 k' i c1 ht)).symm.trans hR)), N0, e0⟩
              refine own_go (fun _ hr => XS.icmpYes X0.here hx rfl (pc0 := 213) (pc' := 218) rfl (hb hby own_d_prog_68_method_11_code_213) rfl (flt c15).2.2.2 (by decide) (by decide) hr) ?_
              show own_Go p e below _ (s₁.setTop (mkF m 218 #[.val (.ref a), .val (.int fr0), .val (.int to0), .val (.int ((i + (1 : Int32)) + (1 : Int32))), .val (.int ((own_at y0 y1 y2 y3 y4 y5 i) &&& (255 : Int32))), .val (.int (3 : Int32)), .val (.int (144 : Int32)), .val (.int (191 : Int32)), .val (.int ((own_at y0 y1 y2 y3 y4 y5 (i + (1 : Int32))) &&& (255 : Int32))), s9, s10] []))
              refine own_go (fun _ hr => XS.iconst X0.here hx rfl (hb hby own_d_prog_68_method_11_code_218) (XS.istoreS X0.here hx rfl (hb hby own_d_prog_68_method_11_code_219) rfl rfl o9 (XS.iload X0.here hx rfl (hb hby own_d_prog_68_method_11_code_221) rfl (XS.iload X0.here hx rfl (hb hby own_d_prog_68_method_11_code_223) rfl (XS.icmpNo X0.here hx rfl (hb hby own_d_prog_68_method_11_code_225) rfl (tlt (by decide)).2.1 (XS.aloadN X0.here hx rfl (hb hby own_d_prog_68_method_11_code_228) rfl rfl (XS.iloadN X0.here hx rfl (hb hby own_d_prog_68_method_11_code_229) rfl (XS.iinc X0.here hx rfl (hb hby own_d_prog_68_method_11_code_230) rfl (l' := #[.val (.ref a), .val (.int fr0), .val (.int to0), .val (.int (((i + (1 : Int32)) + (1 : Int32)) + (1 : Int32))), .val (.int ((own_at y0 y1 y2 y3 y4 y5 i) &&& (255 : Int32))), .val (.int (3 : Int32)), .val (.int (144 : Int32)), .val (.int (191 : Int32)), .val (.int ((own_at y0 y1 y2 y3 y4 y5 (i + (1 : Int32))) &&& (255 : Int32))), .val (.int (1 : Int32)), s10]) rfl (own_baload X0 hx hZ e0 V ((i + (1 : Int32)) + (1 : Int32)) (.int (own_at y0 y1 y2 y3 y4 y5 ((i + (1 : Int32)) + (1 : Int32)))) (own_a2 i ▸ own_tin (k := 2) h1 c1 hto c13 (by decide)) (own_get y0 y1 y2 y3 y4 y5 _ (own_a2 i ▸ own_tin (k := 2) h1 c1 hto c13 (by decide))) rfl rfl (hb hby own_d_prog_68_method_11_code_233) (XS.sipush X0.here hx rfl (hb hby own_d_prog_68_method_11_code_234) hr)))))))))) ?_
              show own_Go p e below _ (s₁.setTop (mkF m 237 #[.val (.ref a), .val (.int fr0), .val (.int to0), .val (.int (((i + (1 : Int32)) + (1 : Int32)) + (1 : Int32))), .val (.int ((own_at y0 y1 y2 y3 y4 y5 i) &&& (255 : Int32))), .val (.int (3 : Int32)), .val (.int (144 : Int32)), .val (.int (191 : Int32)), .val (.int ((own_at y0 y1 y2 y3 y4 y5 (i + (1 : Int32))) &&& (255 : Int32))), .val (.int (1 : Int32)), s10] [(.int (255 : Int32)), (.int (own_at y0 y1 y2 y3 y4 y5 ((i + (1 : Int32)) + (1 : Int32))))]))
              refine own_go (fun _ hr => XS.iand X0.here hx rfl (hb hby own_d_prog_68_method_11_code_237) rfl (XS.istoreS X0.here hx rfl (hb hby own_d_prog_68_method_11_code_238) rfl rfl o10 (XS.iload X0.here hx rfl (hb hby own_d_prog_68_method_11_code_240) rfl (XS.sipush X0.here hx rfl (hb hby own_d_prog_68_method_11_code_242) hr)))) ?_
              show own_Go p e below _ (s₁.setTop (mkF m 245 #[.val (.ref a), .val (.int fr0), .val (.int to0), .val (.int (((i + (1 : Int32)) + (1 : Int32)) + (1 : Int32))), .val (.int ((own_at y0 y1 y2 y3 y4 y5 i) &&& (255 : Int32))), .val (.int (3 : Int32)), .val (.int (144 : Int32)), .val (.int (191 : Int32)), .val (.int ((own_at y0 y1 y2 y3 y4 y5 (i + (1 : Int32))) &&& (255 : Int32))), .val (.int (1 : Int32)), .val (.int ((own_at y0 y1 y2 y3 y4 y5 ((i + (1 : Int32)) + (1 : Int32))) &&& (255 : Int32)))] [(.int (128 : Int32)), (.int ((own_at y0 y1 y2 y3 y4 y5 ((i + (1 : Int32)) + (1 : Int32))) &&& (255 : Int32)))]))
              rcases Classical.em (((own_at y0 y1 y2 y3 y4 y5 ((i + (1 : Int32)) + (1 : Int32))) &&& (255 : Int32)) < (128 : Int32)) with c16 | c16
              · skip
                refine own_go (fun _ hr => XS.icmpYes X0.here hx rfl (pc0 := 245) (pc' := 256) rfl (hb hby own_d_prog_68_method_11_code_245) rfl (tlt c16).1 (by decide) (by decide) hr) ?_
                show own_Go p e below _ (s₁.setTop (mkF m 256 #[.val (.ref a), .val (.int fr0), .val (.int to0), .val (.int (((i + (1 : Int32)) + (1 : Int32)) + (1 : Int32))), .val (.int ((own_at y0 y1 y2 y3 y4 y5 i) &&& (255 : Int32))), .val (.int (3 : Int32)), .val (.int (144 : Int32)), .val (.int (191 : Int32)), .val (.int ((own_at y0 y1 y2 y3 y4 y5 (i + (1 : Int32))) &&& (255 : Int32))), .val (.int (1 : Int32)), .val (.int ((own_at y0 y1 y2 y3 y4 y5 ((i + (1 : Int32)) + (1 : Int32))) &&& (255 : Int32)))] []))
                refine own_go (fun _ hr => XS.iconst X0.here hx rfl (hb hby own_d_prog_68_method_11_code_256) hr) ?_
                show own_Go p e below _ (s₁.setTop (mkF m 257 #[.val (.ref a), .val (.int fr0), .val (.int to0), .val (.int (((i + (1 : Int32)) + (1 : Int32)) + (1 : Int32))), .val (.int ((own_at y0 y1 y2 y3 y4 y5 i) &&& (255 : Int32))), .val (.int (3 : Int32)), .val (.int (144 : Int32)), .val (.int (191 : Int32)), .val (.int ((own_at y0 y1 y2 y3 y4 y5 (i + (1 : Int32))) &&& (255 : Int32))), .val (.int (1 : Int32)), .val (.int ((own_at y0 y1 y2 y3 y4 y5 ((i + (1 : Int32)) + (1 : Int32))) &&& (255 : Int32)))] [(.int (0 : Int32))]))
                have ht : own_turn y0 y1 y2 y3 y4 y5 i to0 = -1 := by unfold own_turn; rw [if_neg c2, if_neg c3, if_pos c6, if_pos c8, if_neg c10, if_pos c11, if_neg c13, if_neg c14, if_neg c15, if_pos c16]
                obtain ⟨k', rfl⟩ : ∃ k', k = k' + 1 := ⟨k - 1, by have q := c1; rw [Int32.lt_iff_toInt_lt] at q; omega⟩
                exact own_retN X0 hx hlk Bd.returns (t := .boolean) (by simp) (hb hby own_d_prog_68_method_11_code_257) (by decide) (by decide) ⟨(congrArg (fun q => some (Value.int q)) (show (0 : Int32) = own_wf y0 y1 y2 y3 y4 y5 to0 6 fr0 from ((own_wf_bad y0 y1 y2 y3 y4 y5 to0 k' i c1 ht)).symm.trans hR)), N0, e0⟩
              refine own_go (fun _ hr => XS.icmpNo X0.here hx rfl (hb hby own_d_prog_68_method_11_code_245) rfl (flt c16).1 hr) ?_
              show own_Go p e below _ (s₁.setTop (mkF m 248 #[.val (.ref a), .val (.int fr0), .val (.int to0), .val (.int (((i + (1 : Int32)) + (1 : Int32)) + (1 : Int32))), .val (.int ((own_at y0 y1 y2 y3 y4 y5 i) &&& (255 : Int32))), .val (.int (3 : Int32)), .val (.int (144 : Int32)), .val (.int (191 : Int32)), .val (.int ((own_at y0 y1 y2 y3 y4 y5 (i + (1 : Int32))) &&& (255 : Int32))), .val (.int (1 : Int32)), .val (.int ((own_at y0 y1 y2 y3 y4 y5 ((i + (1 : Int32)) + (1 : Int32))) &&& (255 : Int32)))] []))
              refine own_go (fun _ hr => XS.iload X0.here hx rfl (hb hby own_d_prog_68_method_11_code_248) rfl (XS.sipush X0.here hx rfl (hb hby own_d_prog_68_method_11_code_250) hr)) ?_
              show own_Go p e below _ (s₁.setTop (mkF m 253 #[.val (.ref a), .val (.int fr0), .val (.int to0), .val (.int (((i + (1 : Int32)) + (1 : Int32)) + (1 : Int32))), .val (.int ((own_at y0 y1 y2 y3 y4 y5 i) &&& (255 : Int32))), .val (.int (3 : Int32)), .val (.int (144 : Int32)), .val (.int (191 : Int32)), .val (.int ((own_at y0 y1 y2 y3 y4 y5 (i + (1 : Int32))) &&& (255 : Int32))), .val (.int (1 : Int32)), .val (.int ((own_at y0 y1 y2 y3 y4 y5 ((i + (1 : Int32)) + (1 : Int32))) &&& (255 : Int32)))] [(.int (191 : Int32)), (.int ((own_at y0 y1 y2 y3 y4 y5 ((i + (1 : Int32)) + (1 : Int32))) &&& (255 : Int32)))]))
              rcases Classical.em ((191 : Int32) < ((own_at y0 y1 y2 y3 y4 y5 ((i + (1 : Int32)) + (1 : Int32))) &&& (255 : Int32))) with c17 | c17
              · skip
                refine own_go (fun _ hr => XS.icmpNo X0.here hx rfl (hb hby own_d_prog_68_method_11_code_253) rfl (tlt c17).2.2.2 hr) ?_
                show own_Go p e below _ (s₁.setTop (mkF m 256 #[.val (.ref a), .val (.int fr0), .val (.int to0), .val (.int (((i + (1 : Int32)) + (1 : Int32)) + (1 : Int32))), .val (.int ((own_at y0 y1 y2 y3 y4 y5 i) &&& (255 : Int32))), .val (.int (3 : Int32)), .val (.int (144 : Int32)), .val (.int (191 : Int32)), .val (.int ((own_at y0 y1 y2 y3 y4 y5 (i + (1 : Int32))) &&& (255 : Int32))), .val (.int (1 : Int32)), .val (.int ((own_at y0 y1 y2 y3 y4 y5 ((i + (1 : Int32)) + (1 : Int32))) &&& (255 : Int32)))] []))
                refine own_go (fun _ hr => XS.iconst X0.here hx rfl (hb hby own_d_prog_68_method_11_code_256) hr) ?_
                show own_Go p e below _ (s₁.setTop (mkF m 257 #[.val (.ref a), .val (.int fr0), .val (.int to0), .val (.int (((i + (1 : Int32)) + (1 : Int32)) + (1 : Int32))), .val (.int ((own_at y0 y1 y2 y3 y4 y5 i) &&& (255 : Int32))), .val (.int (3 : Int32)), .val (.int (144 : Int32)), .val (.int (191 : Int32)), .val (.int ((own_at y0 y1 y2 y3 y4 y5 (i + (1 : Int32))) &&& (255 : Int32))), .val (.int (1 : Int32)), .val (.int ((own_at y0 y1 y2 y3 y4 y5 ((i + (1 : Int32)) + (1 : Int32))) &&& (255 : Int32)))] [(.int (0 : Int32))]))
                have ht : own_turn y0 y1 y2 y3 y4 y5 i to0 = -1 := by unfold own_turn; rw [if_neg c2, if_neg c3, if_pos c6, if_pos c8, if_neg c10, if_pos c11, if_neg c13, if_neg c14, if_neg c15, if_neg c16, if_pos c17]
                obtain ⟨k', rfl⟩ : ∃ k', k = k' + 1 := ⟨k - 1, by have q := c1; rw [Int32.lt_iff_toInt_lt] at q; omega⟩
                exact own_retN X0 hx hlk Bd.returns (t := .boolean) (by simp) (hb hby own_d_prog_68_method_11_code_257) (by decide) (by decide) ⟨(congrArg (fun q => some (Value.int q)) (show (0 : Int32) = own_wf y0 y1 y2 y3 y4 y5 to0 6 fr0 from ((own_wf_bad y0 y1 y2 y3 y4 y5 to0 k' i c1 ht)).symm.trans hR)), N0, e0⟩
              refine own_go (fun _ hr => XS.icmpYes X0.here hx rfl (pc0 := 253) (pc' := 258) rfl (hb hby own_d_prog_68_method_11_code_253) rfl (flt c17).2.2.2 (by decide) (by decide) hr) ?_
              show own_Go p e below _ (s₁.setTop (mkF m 258 #[.val (.ref a), .val (.int fr0), .val (.int to0), .val (.int (((i + (1 : Int32)) + (1 : Int32)) + (1 : Int32))), .val (.int ((own_at y0 y1 y2 y3 y4 y5 i) &&& (255 : Int32))), .val (.int (3 : Int32)), .val (.int (144 : Int32)), .val (.int (191 : Int32)), .val (.int ((own_at y0 y1 y2 y3 y4 y5 (i + (1 : Int32))) &&& (255 : Int32))), .val (.int (1 : Int32)), .val (.int ((own_at y0 y1 y2 y3 y4 y5 ((i + (1 : Int32)) + (1 : Int32))) &&& (255 : Int32)))] []))
              refine own_go (fun _ hr => XS.iinc X0.here hx rfl (hb hby own_d_prog_68_method_11_code_258) rfl (l' := #[.val (.ref a), .val (.int fr0), .val (.int to0), .val (.int (((i + (1 : Int32)) + (1 : Int32)) + (1 : Int32))), .val (.int ((own_at y0 y1 y2 y3 y4 y5 i) &&& (255 : Int32))), .val (.int (3 : Int32)), .val (.int (144 : Int32)), .val (.int (191 : Int32)), .val (.int ((own_at y0 y1 y2 y3 y4 y5 (i + (1 : Int32))) &&& (255 : Int32))), .val (.int (2 : Int32)), .val (.int ((own_at y0 y1 y2 y3 y4 y5 ((i + (1 : Int32)) + (1 : Int32))) &&& (255 : Int32)))]) rfl (XS.goto X0.here hx rfl (pc0 := 261) (pc' := 221) rfl (hb hby own_d_prog_68_method_11_code_261) (by decide) (by decide) (XS.iload X0.here hx rfl (hb hby own_d_prog_68_method_11_code_221) rfl (XS.iload X0.here hx rfl (hb hby own_d_prog_68_method_11_code_223) rfl (XS.icmpNo X0.here hx rfl (hb hby own_d_prog_68_method_11_code_225) rfl (tlt (by decide)).2.1 (XS.aloadN X0.here hx rfl (hb hby own_d_prog_68_method_11_code_228) rfl rfl (XS.iloadN X0.here hx rfl (hb hby own_d_prog_68_method_11_code_229) rfl (XS.iinc X0.here hx rfl (hb hby own_d_prog_68_method_11_code_230) rfl (l' := #[.val (.ref a), .val (.int fr0), .val (.int to0), .val (.int ((((i + (1 : Int32)) + (1 : Int32)) + (1 : Int32)) + (1 : Int32))), .val (.int ((own_at y0 y1 y2 y3 y4 y5 i) &&& (255 : Int32))), .val (.int (3 : Int32)), .val (.int (144 : Int32)), .val (.int (191 : Int32)), .val (.int ((own_at y0 y1 y2 y3 y4 y5 (i + (1 : Int32))) &&& (255 : Int32))), .val (.int (2 : Int32)), .val (.int ((own_at y0 y1 y2 y3 y4 y5 ((i + (1 : Int32)) + (1 : Int32))) &&& (255 : Int32)))]) rfl (own_baload X0 hx hZ e0 V (((i + (1 : Int32)) + (1 : Int32)) + (1 : Int32)) (.int (own_at y0 y1 y2 y3 y4 y5 (((i + (1 : Int32)) + (1 : Int32)) + (1 : Int32)))) (own_a3 i ▸ own_tin (k := 3) h1 c1 hto c13 (by decide)) (own_get y0 y1 y2 y3 y4 y5 _ (own_a3 i ▸ own_tin (k := 3) h1 c1 hto c13 (by decide))) rfl rfl (hb hby own_d_prog_68_method_11_code_233) (XS.sipush X0.here hx rfl (hb hby own_d_prog_68_method_11_code_234) hr)))))))))) ?_
              show own_Go p e below _ (s₁.setTop (mkF m 237 #[.val (.ref a), .val (.int fr0), .val (.int to0), .val (.int ((((i + (1 : Int32)) + (1 : Int32)) + (1 : Int32)) + (1 : Int32))), .val (.int ((own_at y0 y1 y2 y3 y4 y5 i) &&& (255 : Int32))), .val (.int (3 : Int32)), .val (.int (144 : Int32)), .val (.int (191 : Int32)), .val (.int ((own_at y0 y1 y2 y3 y4 y5 (i + (1 : Int32))) &&& (255 : Int32))), .val (.int (2 : Int32)), .val (.int ((own_at y0 y1 y2 y3 y4 y5 ((i + (1 : Int32)) + (1 : Int32))) &&& (255 : Int32)))] [(.int (255 : Int32)), (.int (own_at y0 y1 y2 y3 y4 y5 (((i + (1 : Int32)) + (1 : Int32)) + (1 : Int32))))]))
              refine own_go (fun _ hr => XS.iand X0.here hx rfl (hb hby own_d_prog_68_method_11_code_237) rfl (XS.istore X0.here hx rfl (hb hby own_d_prog_68_method_11_code_238) rfl (l' := #[.val (.ref a), .val (.int fr0), .val (.int to0), .val (.int ((((i + (1 : Int32)) + (1 : Int32)) + (1 : Int32)) + (1 : Int32))), .val (.int ((own_at y0 y1 y2 y3 y4 y5 i) &&& (255 : Int32))), .val (.int (3 : Int32)), .val (.int (144 : Int32)), .val (.int (191 : Int32)), .val (.int ((own_at y0 y1 y2 y3 y4 y5 (i + (1 : Int32))) &&& (255 : Int32))), .val (.int (2 : Int32)), .val (.int ((own_at y0 y1 y2 y3 y4 y5 (((i + (1 : Int32)) + (1 : Int32)) + (1 : Int32))) &&& (255 : Int32)))]) rfl (XS.iload X0.here hx rfl (hb hby own_d_prog_68_method_11_code_240) rfl (XS.sipush X0.here hx rfl (hb hby own_d_prog_68_method_11_code_242) hr)))) ?_
              show own_Go p e below _ (s₁.setTop (mkF m 245 #[.val (.ref a), .val (.int fr0), .val (.int to0), .val (.int ((((i + (1 : Int32)) + (1 : Int32)) + (1 : Int32)) + (1 : Int32))), .val (.int ((own_at y0 y1 y2 y3 y4 y5 i) &&& (255 : Int32))), .val (.int (3 : Int32)), .val (.int (144 : Int32)), .val (.int (191 : Int32)), .val (.int ((own_at y0 y1 y2 y3 y4 y5 (i + (1 : Int32))) &&& (255 : Int32))), .val (.int (2 : Int32)), .val (.int ((own_at y0 y1 y2 y3 y4 y5 (((i + (1 : Int32)) + (1 : Int32)) + (1 : Int32))) &&& (255 : Int32)))] [(.int (128 : Int32)), (.int ((own_at y0 y1 y2 y3 y4 y5 (((i + (1 : Int32)) + (1 : Int32)) + (1 : Int32))) &&& (255 : Int32)))]))
              rcases Classical.em (((own_at y0 y1 y2 y3 y4 y5 (((i + (1 : Int32)) + (1 : Int32)) + (1 : Int32))) &&& (255 : Int32)) < (128 : Int32)) with c18 | c18
              · skip
                refine own_go (fun _ hr => XS.icmpYes X0.here hx rfl (pc0 := 245) (pc' := 256) rfl (hb hby own_d_prog_68_method_11_code_245) rfl (tlt c18).1 (by decide) (by decide) hr) ?_
                show own_Go p e below _ (s₁.setTop (mkF m 256 #[.val (.ref a), .val (.int fr0), .val (.int to0), .val (.int ((((i + (1 : Int32)) + (1 : Int32)) + (1 : Int32)) + (1 : Int32))), .val (.int ((own_at y0 y1 y2 y3 y4 y5 i) &&& (255 : Int32))), .val (.int (3 : Int32)), .val (.int (144 : Int32)), .val (.int (191 : Int32)), .val (.int ((own_at y0 y1 y2 y3 y4 y5 (i + (1 : Int32))) &&& (255 : Int32))), .val (.int (2 : Int32)), .val (.int ((own_at y0 y1 y2 y3 y4 y5 (((i + (1 : Int32)) + (1 : Int32)) + (1 : Int32))) &&& (255 : Int32)))] []))
                refine own_go (fun _ hr => XS.iconst X0.here hx rfl (hb hby own_d_prog_68_method_11_code_256) hr) ?_
                show own_Go p e below _ (s₁.setTop (mkF m 257 #[.val (.ref a), .val (.int fr0), .val (.int to0), .val (.int ((((i + (1 : Int32)) + (1 : Int32)) + (1 : Int32)) + (1 : Int32))), .val (.int ((own_at y0 y1 y2 y3 y4 y5 i) &&& (255 : Int32))), .val (.int (3 : Int32)), .val (.int (144 : Int32)), .val (.int (191 : Int32)), .val (.int ((own_at y0 y1 y2 y3 y4 y5 (i + (1 : Int32))) &&& (255 : Int32))), .val (.int (2 : Int32)), .val (.int ((own_at y0 y1 y2 y3 y4 y5 (((i + (1 : Int32)) + (1 : Int32)) + (1 : Int32))) &&& (255 : Int32)))] [(.int (0 : Int32))]))
                have ht : own_turn y0 y1 y2 y3 y4 y5 i to0 = -1 := by unfold own_turn; rw [if_neg c2, if_neg c3, if_pos c6, if_pos c8, if_neg c10, if_pos c11, if_neg c13, if_neg c14, if_neg c15, if_neg c16, if_neg c17, if_pos c18]
                obtain ⟨k', rfl⟩ : ∃ k', k = k' + 1 := ⟨k - 1, by have q := c1; rw [Int32.lt_iff_toInt_lt] at q; omega⟩
                exact own_retN X0 hx hlk Bd.returns (t := .boolean) (by simp) (hb hby own_d_prog_68_method_11_code_257) (by decide) (by decide) ⟨(congrArg (fun q => some (Value.int q)) (show (0 : Int32) = own_wf y0 y1 y2 y3 y4 y5 to0 6 fr0 from ((own_wf_bad y0 y1 y2 y3 y4 y5 to0 k' i c1 ht)).symm.trans hR)), N0, e0⟩
              refine own_go (fun _ hr => XS.icmpNo X0.here hx rfl (hb hby own_d_prog_68_method_11_code_245) rfl (flt c18).1 hr) ?_
              show own_Go p e below _ (s₁.setTop (mkF m 248 #[.val (.ref a), .val (.int fr0), .val (.int to0), .val (.int ((((i + (1 : Int32)) + (1 : Int32)) + (1 : Int32)) + (1 : Int32))), .val (.int ((own_at y0 y1 y2 y3 y4 y5 i) &&& (255 : Int32))), .val (.int (3 : Int32)), .val (.int (144 : Int32)), .val (.int (191 : Int32)), .val (.int ((own_at y0 y1 y2 y3 y4 y5 (i + (1 : Int32))) &&& (255 : Int32))), .val (.int (2 : Int32)), .val (.int ((own_at y0 y1 y2 y3 y4 y5 (((i + (1 : Int32)) + (1 : Int32)) + (1 : Int32))) &&& (255 : Int32)))] []))
              refine own_go (fun _ hr => XS.iload X0.here hx rfl (hb hby own_d_prog_68_method_11_code_248) rfl (XS.sipush X0.here hx rfl (hb hby own_d_prog_68_method_11_code_250) hr)) ?_
              show own_Go p e below _ (s₁.setTop (mkF m 253 #[.val (.ref a), .val (.int fr0), .val (.int to0), .val (.int ((((i + (1 : Int32)) + (1 : Int32)) + (1 : Int32)) + (1 : Int32))), .val (.int ((own_at y0 y1 y2 y3 y4 y5 i) &&& (255 : Int32))), .val (.int (3 : Int32)), .val (.int (144 : Int32)), .val (.int (191 : Int32)), .val (.int ((own_at y0 y1 y2 y3 y4 y5 (i + (1 : Int32))) &&& (255 : Int32))), .val (.int (2 : Int32)), .val (.int ((own_at y0 y1 y2 y3 y4 y5 (((i + (1 : Int32)) + (1 : Int32)) + (1 : Int32))) &&& (255 : Int32)))] [(.int (191 : Int32)), (.int ((own_at y0 y1 y2 y3 y4 y5 (((i + (1 : Int32)) + (1 : Int32)) + (1 : Int32))) &&& (255 : Int32)))]))
              rcases Classical.em ((191 : Int32) < ((own_at y0 y1 y2 y3 y4 y5 (((i + (1 : Int32)) + (1 : Int32)) + (1 : Int32))) &&& (255 : Int32))) with c19 | c19
              · skip
                refine own_go (fun _ hr => XS.icmpNo X0.here hx rfl (hb hby own_d_prog_68_method_11_code_253) rfl (tlt c19).2.2.2 hr) ?_
                show own_Go p e below _ (s₁.setTop (mkF m 256 #[.val (.ref a), .val (.int fr0), .val (.int to0), .val (.int ((((i + (1 : Int32)) + (1 : Int32)) + (1 : Int32)) + (1 : Int32))), .val (.int ((own_at y0 y1 y2 y3 y4 y5 i) &&& (255 : Int32))), .val (.int (3 : Int32)), .val (.int (144 : Int32)), .val (.int (191 : Int32)), .val (.int ((own_at y0 y1 y2 y3 y4 y5 (i + (1 : Int32))) &&& (255 : Int32))), .val (.int (2 : Int32)), .val (.int ((own_at y0 y1 y2 y3 y4 y5 (((i + (1 : Int32)) + (1 : Int32)) + (1 : Int32))) &&& (255 : Int32)))] []))
                refine own_go (fun _ hr => XS.iconst X0.here hx rfl (hb hby own_d_prog_68_method_11_code_256) hr) ?_
                show own_Go p e below _ (s₁.setTop (mkF m 257 #[.val (.ref a), .val (.int fr0), .val (.int to0), .val (.int ((((i + (1 : Int32)) + (1 : Int32)) + (1 : Int32)) + (1 : Int32))), .val (.int ((own_at y0 y1 y2 y3 y4 y5 i) &&& (255 : Int32))), .val (.int (3 : Int32)), .val (.int (144 : Int32)), .val (.int (191 : Int32)), .val (.int ((own_at y0 y1 y2 y3 y4 y5 (i + (1 : Int32))) &&& (255 : Int32))), .val (.int (2 : Int32)), .val (.int ((own_at y0 y1 y2 y3 y4 y5 (((i + (1 : Int32)) + (1 : Int32)) + (1 : Int32))) &&& (255 : Int32)))] [(.int (0 : Int32))]))
                have ht : own_turn y0 y1 y2 y3 y4 y5 i to0 = -1 := by unfold own_turn; rw [if_neg c2, if_neg c3, if_pos c6, if_pos c8, if_neg c10, if_pos c11, if_neg c13, if_neg c14, if_neg c15, if_neg c16, if_neg c17, if_neg c18, if_pos c19]
                obtain ⟨k', rfl⟩ : ∃ k', k = k' + 1 := ⟨k - 1, by have q := c1; rw [Int32.lt_iff_toInt_lt] at q; omega⟩
                exact own_retN X0 hx hlk Bd.returns (t := .boolean) (by simp) (hb hby own_d_prog_68_method_11_code_257) (by decide) (by decide) ⟨(congrArg (fun q => some (Value.int q)) (show (0 : Int32) = own_wf y0 y1 y2 y3 y4 y5 to0 6 fr0 from ((own_wf_bad y0 y1 y2 y3 y4 y5 to0 k' i c1 ht)).symm.trans hR)), N0, e0⟩
              refine own_go (fun _ hr => XS.icmpYes X0.here hx rfl (pc0 := 253) (pc' := 258) rfl (hb hby own_d_prog_68_method_11_code_253) rfl (flt c19).2.2.2 (by decide) (by decide) hr) ?_
              show own_Go p e below _ (s₁.setTop (mkF m 258 #[.val (.ref a), .val (.int fr0), .val (.int to0), .val (.int ((((i + (1 : Int32)) + (1 : Int32)) + (1 : Int32)) + (1 : Int32))), .val (.int ((own_at y0 y1 y2 y3 y4 y5 i) &&& (255 : Int32))), .val (.int (3 : Int32)), .val (.int (144 : Int32)), .val (.int (191 : Int32)), .val (.int ((own_at y0 y1 y2 y3 y4 y5 (i + (1 : Int32))) &&& (255 : Int32))), .val (.int (2 : Int32)), .val (.int ((own_at y0 y1 y2 y3 y4 y5 (((i + (1 : Int32)) + (1 : Int32)) + (1 : Int32))) &&& (255 : Int32)))] []))
              refine own_go (fun _ hr => XS.iinc X0.here hx rfl (hb hby own_d_prog_68_method_11_code_258) rfl (l' := #[.val (.ref a), .val (.int fr0), .val (.int to0), .val (.int ((((i + (1 : Int32)) + (1 : Int32)) + (1 : Int32)) + (1 : Int32))), .val (.int ((own_at y0 y1 y2 y3 y4 y5 i) &&& (255 : Int32))), .val (.int (3 : Int32)), .val (.int (144 : Int32)), .val (.int (191 : Int32)), .val (.int ((own_at y0 y1 y2 y3 y4 y5 (i + (1 : Int32))) &&& (255 : Int32))), .val (.int (3 : Int32)), .val (.int ((own_at y0 y1 y2 y3 y4 y5 (((i + (1 : Int32)) + (1 : Int32)) + (1 : Int32))) &&& (255 : Int32)))]) rfl (XS.goto X0.here hx rfl (pc0 := 261) (pc' := 221) rfl (hb hby own_d_prog_68_method_11_code_261) (by decide) (by decide) (XS.iload X0.here hx rfl (hb hby own_d_prog_68_method_11_code_221) rfl (XS.iload X0.here hx rfl (hb hby own_d_prog_68_method_11_code_223) rfl (XS.icmpYes X0.here hx rfl (pc0 := 225) (pc' := 264) rfl (hb hby own_d_prog_68_method_11_code_225) rfl (flt (by decide)).2.1 (by decide) (by decide) (XS.goto X0.here hx rfl (pc0 := 264) (pc' := 2) rfl (hb hby own_d_prog_68_method_11_code_264) (by decide) (by decide) hr)))))) ?_
              show own_Go p e below _ (s₁.setTop (mkF m 2 #[.val (.ref a), .val (.int fr0), .val (.int to0), .val (.int ((((i + (1 : Int32)) + (1 : Int32)) + (1 : Int32)) + (1 : Int32))), .val (.int ((own_at y0 y1 y2 y3 y4 y5 i) &&& (255 : Int32))), .val (.int (3 : Int32)), .val (.int (144 : Int32)), .val (.int (191 : Int32)), .val (.int ((own_at y0 y1 y2 y3 y4 y5 (i + (1 : Int32))) &&& (255 : Int32))), .val (.int (3 : Int32)), .val (.int ((own_at y0 y1 y2 y3 y4 y5 (((i + (1 : Int32)) + (1 : Int32)) + (1 : Int32))) &&& (255 : Int32)))] []))
              have ht : own_turn y0 y1 y2 y3 y4 y5 i to0 = ((((i + (1 : Int32)) + (1 : Int32)) + (1 : Int32)) + (1 : Int32)) := by unfold own_turn; rw [if_neg c2, if_neg c3, if_pos c6, if_pos c8, if_neg c10, if_pos c11, if_neg c13, if_neg c14, if_neg c15, if_neg c16, if_neg c17, if_neg c18, if_neg c19]
              obtain ⟨k', rfl⟩ : ∃ k', k = k' + 1 := ⟨k - 1, by have q := c1; rw [Int32.lt_iff_toInt_lt] at q; omega⟩
              have hb : i.toInt < (((((i + (1 : Int32)) + (1 : Int32)) + (1 : Int32)) + (1 : Int32))).toInt ∧ (((((i + (1 : Int32)) + (1 : Int32)) + (1 : Int32)) + (1 : Int32))).toInt ≤ to0.toInt ∧ ¬ ((((i + (1 : Int32)) + (1 : Int32)) + (1 : Int32)) + (1 : Int32)) = -1 := by
                have q0 := rng32 i
                have q1 := c_iadd i (1 : Int32)
                have r1 := rng32 (i + (1 : Int32))
                have q2 := c_iadd (i + (1 : Int32)) (1 : Int32)
                have r2 := rng32 ((i + (1 : Int32)) + (1 : Int32))
                have q3 := c_iadd ((i + (1 : Int32)) + (1 : Int32)) (1 : Int32)
                have r3 := rng32 (((i + (1 : Int32)) + (1 : Int32)) + (1 : Int32))
                have q4 := c_iadd (((i + (1 : Int32)) + (1 : Int32)) + (1 : Int32)) (1 : Int32)
                have r4 := rng32 ((((i + (1 : Int32)) + (1 : Int32)) + (1 : Int32)) + (1 : Int32))
                have q5 := rng32 to0
                have q6 := c_isub to0 (i + (1 : Int32))
                have r6 := rng32 (to0 - (i + (1 : Int32)))
                have p0 := c1
                have p1 := c13
                simp only [true_implies, Int32.lt_iff_toInt_lt, ← Int32.toInt_inj, Int32.reduceToInt, Int64.lt_iff_toInt_lt, ← Int64.toInt_inj, Int64.reduceToInt] at q0 q1 q2 q3 q4 q5 q6 p0 p1 ⊢
                omega
              exact ih k' (Nat.lt_succ_self _) ((((i + (1 : Int32)) + (1 : Int32)) + (1 : Int32)) + (1 : Int32)) _ _ _ _ _ _ _ (One.val rfl) (One.val rfl) (One.val rfl) (One.val rfl) (One.val rfl) (One.val rfl) (One.val rfl) (by omega) hb.2.1 (by omega) ((own_wf_on y0 y1 y2 y3 y4 y5 to0 k' i _ c1 ht hb.2.2).symm.trans hR)
            refine own_go (fun _ hr => XS.icmpYes X0.here hx rfl (pc0 := 144) (pc' := 153) rfl (hb hby own_d_prog_68_method_11_code_144) rfl (feq c11).2 (by decide) (by decide) hr) ?_
            show own_Go p e below _ (s₁.setTop (mkF m 153 #[.val (.ref a), .val (.int fr0), .val (.int to0), .val (.int (i + (1 : Int32))), .val (.int ((own_at y0 y1 y2 y3 y4 y5 i) &&& (255 : Int32))), .val (.int (3 : Int32)), .val (.int (128 : Int32)), .val (.int (191 : Int32)), s8, s9, s10] []))
            refine own_go (fun _ hr => XS.iload X0.here hx rfl (hb hby own_d_prog_68_method_11_code_153) rfl (XS.istore X0.here hx rfl (hb hby own_d_prog_68_method_11_code_155) rfl (l' := #[.val (.ref a), .val (.int fr0), .val (.int to0), .val (.int (i + (1 : Int32))), .val (.int ((own_at y0 y1 y2 y3 y4 y5 i) &&& (255 : Int32))), .val (.int (3 : Int32)), .val (.int (128 : Int32)), .val (.int (191 : Int32)), s8, s9, s10]) rfl (XS.iload X0.here hx rfl (hb hby own_d_prog_68_method_11_code_157) rfl (XS.sipush X0.here hx rfl (hb hby own_d_prog_68_method_11_code_159) hr)))) ?_
            show own_Go p e below _ (s₁.setTop (mkF m 162 #[.val (.ref a), .val (.int fr0), .val (.int to0), .val (.int (i + (1 : Int32))), .val (.int ((own_at y0 y1 y2 y3 y4 y5 i) &&& (255 : Int32))), .val (.int (3 : Int32)), .val (.int (128 : Int32)), .val (.int (191 : Int32)), s8, s9, s10] [(.int (244 : Int32)), (.int ((own_at y0 y1 y2 y3 y4 y5 i) &&& (255 : Int32)))]))
            rcases Classical.em (((own_at y0 y1 y2 y3 y4 y5 i) &&& (255 : Int32)) = (244 : Int32)) with c20 | c20
            · skip
              refine own_go (fun _ hr => XS.icmpNo X0.here hx rfl (hb hby own_d_prog_68_method_11_code_162) rfl (teq c20).2 hr) ?_
              show own_Go p e below _ (s₁.setTop (mkF m 165 #[.val (.ref a), .val (.int fr0), .val (.int to0), .val (.int (i + (1 : Int32))), .val (.int ((own_at y0 y1 y2 y3 y4 y5 i) &&& (255 : Int32))), .val (.int (3 : Int32)), .val (.int (128 : Int32)), .val (.int (191 : Int32)), s8, s9, s10] []))
              refine own_go (fun _ hr => XS.sipush X0.here hx rfl (hb hby own_d_prog_68_method_11_code_165) (XS.goto X0.here hx rfl (pc0 := 168) (pc' := 173) rfl (hb hby own_d_prog_68_method_11_code_168) (by decide) (by decide) (XS.istore X0.here hx rfl (hb hby own_d_prog_68_method_11_code_173) rfl (l' := #[.val (.ref a), .val (.int fr0), .val (.int to0), .val (.int (i + (1 : Int32))), .val (.int ((own_at y0 y1 y2 y3 y4 y5 i) &&& (255 : Int32))), .val (.int (3 : Int32)), .val (.int (128 : Int32)), .val (.int (143 : Int32)), s8, s9, s10]) rfl (XS.goto X0.here hx rfl (pc0 := 175) (pc' := 180) rfl (hb hby own_d_prog_68_method_11_code_175) (by decide) (by decide) (XS.iloadN X0.here hx rfl (hb hby own_d_prog_68_method_11_code_180) rfl (XS.iloadN X0.here hx rfl (hb hby own_d_prog_68_method_11_code_181) rfl (XS.isub X0.here hx rfl (hb hby own_d_prog_68_method_11_code_182) rfl (XS.iload X0.here hx rfl (hb hby own_d_prog_68_method_11_code_183) rfl hr)))))))) ?_
              show own_Go p e below _ (s₁.setTop (mkF m 185 #[.val (.ref a), .val (.int fr0), .val (.int to0), .val (.int (i + (1 : Int32))), .val (.int ((own_at y0 y1 y2 y3 y4 y5 i) &&& (255 : Int32))), .val (.int (3 : Int32)), .val (.int (128 : Int32)), .val (.int (143 : Int32)), s8, s9, s10] [(.int (3 : Int32)), (.int (to0 - (i + (1 : Int32))))]))
              rcases Classical.em ((to0 - (i + (1 : Int32))) < (3 : Int32)) with c21 | c21
              · skip
                refine own_go (fun _ hr => XS.icmpNo X0.here hx rfl (hb hby own_d_prog_68_method_11_code_185) rfl (tlt c21).2.1 hr) ?_
                show own_Go p e below _ (s₁.setTop (mkF m 188 #[.val (.ref a), .val (.int fr0), .val (.int to0), .val (.int (i + (1 : Int32))), .val (.int ((own_at y0 y1 y2 y3 y4 y5 i) &&& (255 : Int32))), .val (.int (3 : Int32)), .val (.int (128 : Int32)), .val (.int (143 : Int32)), s8, s9, s10] []))
                refine own_go (fun _ hr => XS.iconst X0.here hx rfl (hb hby own_d_prog_68_method_11_code_188) hr) ?_
                show own_Go p e below _ (s₁.setTop (mkF m 189 #[.val (.ref a), .val (.int fr0), .val (.int to0), .val (.int (i + (1 : Int32))), .val (.int ((own_at y0 y1 y2 y3 y4 y5 i) &&& (255 : Int32))), .val (.int (3 : Int32)), .val (.int (128 : Int32)), .val (.int (143 : Int32)), s8, s9, s10] [(.int (0 : Int32))]))
                have ht : own_turn y0 y1 y2 y3 y4 y5 i to0 = -1 := by unfold own_turn; rw [if_neg c2, if_neg c3, if_pos c6, if_pos c8, if_neg c10, if_neg c11, if_pos c20, if_pos c21]
                obtain ⟨k', rfl⟩ : ∃ k', k = k' + 1 := ⟨k - 1, by have q := c1; rw [Int32.lt_iff_toInt_lt] at q; omega⟩
                exact own_retN X0 hx hlk Bd.returns (t := .boolean) (by simp) (hb hby own_d_prog_68_method_11_code_189) (by decide) (by decide) ⟨(congrArg (fun q => some (Value.int q)) (show (0 : Int32) = own_wf y0 y1 y2 y3 y4 y5 to0 6 fr0 from ((own_wf_bad y0 y1 y2 y3 y4 y5 to0 k' i c1 ht)).symm.trans hR)), N0, e0⟩
              refine own_go (fun _ hr => XS.icmpYes X0.here hx rfl (pc0 := 185) (pc' := 190) rfl (hb hby own_d_prog_68_method_11_code_185) rfl (flt c21).2.1 (by decide) (by decide) hr) ?_
              show own_Go p e below _ (s₁.setTop (mkF m 190 #[.val (.ref a), .val (.int fr0), .val (.int to0), .val (.int (i + (1 : Int32))), .val (.int ((own_at y0 y1 y2 y3 y4 y5 i) &&& (255 : Int32))), .val (.int (3 : Int32)), .val (.int (128 : Int32)), .val (.int (143 : Int32)), s8, s9, s10] []))
              refine own_go (fun _ hr => XS.aloadN X0.here hx rfl (hb hby own_d_prog_68_method_11_code_190) rfl rfl (XS.iloadN X0.here hx rfl (hb hby own_d_prog_68_method_11_code_191) rfl (XS.iinc X0.here hx rfl (hb hby own_d_prog_68_method_11_code_192) rfl (l' := #[.val (.ref a), .val (.int fr0), .val (.int to0), .val (.int ((i + (1 : Int32)) + (1 : Int32))), .val (.int ((own_at y0 y1 y2 y3 y4 y5 i) &&& (255 : Int32))), .val (.int (3 : Int32)), .val (.int (128 : Int32)), .val (.int (143 : Int32)), s8, s9, s10]) rfl (own_baload X0 hx hZ e0 V (i + (1 : Int32)) (.int (own_at y0 y1 y2 y3 y4 y5 (i + (1 : Int32)))) (own_tin h1 c1 hto c21 (by decide)) (own_get y0 y1 y2 y3 y4 y5 _ (own_tin h1 c1 hto c21 (by decide))) rfl rfl (hb hby own_d_prog_68_method_11_code_195) (XS.sipush X0.here hx rfl (hb hby own_d_prog_68_method_11_code_196) (XS.iand X0.here hx rfl (hb hby own_d_prog_68_method_11_code_199) rfl (XS.istoreS X0.here hx rfl (hb hby own_d_prog_68_method_11_code_200) rfl rfl o8 (XS.iload X0.here hx rfl (hb hby own_d_prog_68_method_11_code_202) rfl (XS.iload X0.here hx rfl (hb hby own_d_prog_68_method_11_code_204) rfl hr))))))))) ?_
              show own_Go p e below _ (s₁.setTop (mkF m 206 #[.val (.ref a), .val (.int fr0), .val (.int to0), .val (.int ((i + (1 : Int32)) + (1 : Int32))), .val (.int ((own_at y0 y1 y2 y3 y4 y5 i) &&& (255 : Int32))), .val (.int (3 : Int32)), .val (.int (128 : Int32)), .val (.int (143 : Int32)), .val (.int ((own_at y0 y1 y2 y3 y4 y5 (i + (1 : Int32))) &&& (255 : Int32))), s9, s10] [(.int (128 : Int32)), (.int ((own_at y0 y1 y2 y3 y4 y5 (i + (1 : Int32))) &&& (255 : Int32)))]))
              rcases Classical.em (((own_at y0 y1 y2 y3 y4 y5 (i + (1 : Int32))) &&& (255 : Int32)) < (128 : Int32)) with c22 | c22
              · skip
                refine own_go (fun _ hr => XS.icmpYes X0.here hx rfl (pc0 := 206) (pc' := 216) rfl (hb hby own_d_prog_68_method_11_code_206) rfl (tlt c22).1 (by decide) (by decide) hr) ?_
                show own_Go p e below _ (s₁.setTop (mkF m 216 #[.val (.ref a), .val (.int fr0), .val (.int to0), .val (.int ((i + (1 : Int32)) + (1 : Int32))), .val (.int ((own_at y0 y1 y2 y3 y4 y5 i) &&& (255 : Int32))), .val (.int (3 : Int32)), .val (.int (128 : Int32)), .val (.int (143 : Int32)), .val (.int ((own_at y0 y1 y2 y3 y4 y5 (i + (1 : Int32))) &&& (255 : Int32))), s9, s10] []))
                refine own_go (fun _ hr => XS.iconst X0.here hx rfl (hb hby own_d_prog_68_method_11_code_216) hr) ?_
                show own_Go p e below _ (s₁.setTop (mkF m 217 #[.val (.ref a), .val (.int fr0), .val (.int to0), .val (.int ((i + (1 : Int32)) + (1 : Int32))), .val (.int ((own_at y0 y1 y2 y3 y4 y5 i) &&& (255 : Int32))), .val (.int (3 : Int32)), .val (.int (128 : Int32)), .val (.int (143 : Int32)), .val (.int ((own_at y0 y1 y2 y3 y4 y5 (i + (1 : Int32))) &&& (255 : Int32))), s9, s10] [(.int (0 : Int32))]))
                have ht : own_turn y0 y1 y2 y3 y4 y5 i to0 = -1 := by unfold own_turn; rw [if_neg c2, if_neg c3, if_pos c6, if_pos c8, if_neg c10, if_neg c11, if_pos c20, if_neg c21, if_pos c22]
                obtain ⟨k', rfl⟩ : ∃ k', k = k' + 1 := ⟨k - 1, by have q := c1; rw [Int32.lt_iff_toInt_lt] at q; omega⟩
                exact own_retN X0 hx hlk Bd.returns (t := .boolean) (by simp) (hb hby own_d_prog_68_method_11_code_217) (by decide) (by decide) ⟨(congrArg (fun q => some (Value.int q)) (show (0 : Int32) = own_wf y0 y1 y2 y3 y4 y5 to0 6 fr0 from ((own_wf_bad y0 y1 y2 y3 y4 y5 to0 k' i c1 ht)).symm.trans hR)), N0, e0⟩
              refine own_go (fun _ hr => XS.icmpNo X0.here hx rfl (hb hby own_d_prog_68_method_11_code_206) rfl (flt c22).1 hr) ?_
              show own_Go p e below _ (s₁.setTop (mkF m 209 #[.val (.ref a), .val (.int fr0), .val (.int to0), .val (.int ((i + (1 : Int32)) + (1 : Int32))), .val (.int ((own_at y0 y1 y2 y3 y4 y5 i) &&& (255 : Int32))), .val (.int (3 : Int32)), .val (.int (128 : Int32)), .val (.int (143 : Int32)), .val (.int ((own_at y0 y1 y2 y3 y4 y5 (i + (1 : Int32))) &&& (255 : Int32))), s9, s10] []))
              refine own_go (fun _ hr => XS.iload X0.here hx rfl (hb hby own_d_prog_68_method_11_code_209) rfl (XS.iload X0.here hx rfl (hb hby own_d_prog_68_method_11_code_211) rfl hr)) ?_
              show own_Go p e below _ (s₁.setTop (mkF m 213 #[.val (.ref a), .val (.int fr0), .val (.int to0), .val (.int ((i + (1 : Int32)) + (1 : Int32))), .val (.int ((own_at y0 y1 y2 y3 y4 y5 i) &&& (255 : Int32))), .val (.int (3 : Int32)), .val (.int (128 : Int32)), .val (.int (143 : Int32)), .val (.int ((own_at y0 y1 y2 y3 y4 y5 (i + (1 : Int32))) &&& (255 : Int32))), s9, s10] [(.int (143 : Int32)), (.int ((own_at y0 y1 y2 y3 y4 y5 (i + (1 : Int32))) &&& (255 : Int32)))]))
              rcases Classical.em ((143 : Int32) < ((own_at y0 y1 y2 y3 y4 y5 (i + (1 : Int32))) &&& (255 : Int32))) with c23 | c23
              · skip
                refine own_go (fun _ hr => XS.icmpNo X0.here hx rfl (hb hby own_d_prog_68_method_11_code_213) rfl (tlt c23).2.2.2 hr) ?_
                show own_Go p e below _ (s₁.setTop (mkF m 216 #[.val (.ref a), .val (.int fr0), .val (.int to0), .val (.int ((i + (1 : Int32)) + (1 : Int32))), .val (.int ((own_at y0 y1 y2 y3 y4 y5 i) &&& (255 : Int32))), .val (.int (3 : Int32)), .val (.int (128 : Int32)), .val (.int (143 : Int32)), .val (.int ((own_at y0 y1 y2 y3 y4 y5 (i + (1 : Int32))) &&& (255 : Int32))), s9, s10] []))
                refine own_go (fun _ hr => XS.iconst X0.here hx rfl (hb hby own_d_prog_68_method_11_code_216) hr) ?_
                show own_Go p e below _ (s₁.setTop (mkF m 217 #[.val (.ref a), .val (.int fr0), .val (.int to0), .val (.int ((i + (1 : Int32)) + (1 : Int32))), .val (.int ((own_at y0 y1 y2 y3 y4 y5 i) &&& (255 : Int32))), .val (.int (3 : Int32)), .val (.int (128 : Int32)), .val (.int (143 : Int32)), .val (.int ((own_at y0 y1 y2 y3 y4 y5 (i + (1 : Int32))) &&& (255 : Int32))), s9, s10] [(.int (0 : Int32))]))
                have ht : own_turn y0 y1 y2 y3 y4 y5 i to0 = -1 := by unfold own_turn; rw [if_neg c2, if_neg c3, if_pos c6, if_pos c8, if_neg c10, if_neg c11, if_pos c20, if_neg c21, if_neg c22, if_pos c23]
                obtain ⟨k', rfl⟩ : ∃ k', k = k' + 1 := ⟨k - 1, by have q := c1; rw [Int32.lt_iff_toInt_lt] at q; omega⟩
                exact own_retN X0 hx hlk Bd.returns (t := .boolean) (by simp) (hb hby own_d_prog_68_method_11_code_217) (by decide) (by decide) ⟨(congrArg (fun q => some (Value.int q)) (show (0 : Int32) = own_wf y0 y1 y2 y3 y4 y5 to0 6 fr0 from ((own_wf_bad y0 y1 y2 y3 y4 y5 to0 k' i c1 ht)).symm.trans hR)), N0, e0⟩
              refine own_go (fun _ hr => XS.icmpYes X0.here hx rfl (pc0 := 213) (pc' := 218) rfl (hb hby own_d_prog_68_method_11_code_213) rfl (flt c23).2.2.2 (by decide) (by decide) hr) ?_
              show own_Go p e below _ (s₁.setTop (mkF m 218 #[.val (.ref a), .val (.int fr0), .val (.int to0), .val (.int ((i + (1 : Int32)) + (1 : Int32))), .val (.int ((own_at y0 y1 y2 y3 y4 y5 i) &&& (255 : Int32))), .val (.int (3 : Int32)), .val (.int (128 : Int32)), .val (.int (143 : Int32)), .val (.int ((own_at y0 y1 y2 y3 y4 y5 (i + (1 : Int32))) &&& (255 : Int32))), s9, s10] []))
              refine own_go (fun _ hr => XS.iconst X0.here hx rfl (hb hby own_d_prog_68_method_11_code_218) (XS.istoreS X0.here hx rfl (hb hby own_d_prog_68_method_11_code_219) rfl rfl o9 (XS.iload X0.here hx rfl (hb hby own_d_prog_68_method_11_code_221) rfl (XS.iload X0.here hx rfl (hb hby own_d_prog_68_method_11_code_223) rfl (XS.icmpNo X0.here hx rfl (hb hby own_d_prog_68_method_11_code_225) rfl (tlt (by decide)).2.1 (XS.aloadN X0.here hx rfl (hb hby own_d_prog_68_method_11_code_228) rfl rfl (XS.iloadN X0.here hx rfl (hb hby own_d_prog_68_method_11_code_229) rfl (XS.iinc X0.here hx rfl (hb hby own_d_prog_68_method_11_code_230) rfl (l' := #[.val (.ref a), .val (.int fr0), .val (.int to0), .val (.int (((i + (1 : Int32)) + (1 : Int32)) + (1 : Int32))), .val (.int ((own_at y0 y1 y2 y3 y4 y5 i) &&& (255 : Int32))), .val (.int (3 : Int32)), .val (.int (128 : Int32)), .val (.int (143 : Int32)), .val (.int ((own_at y0 y1 y2 y3 y4 y5 (i + (1 : Int32))) &&& (255 : Int32))), .val (.int (1 : Int32)), s10]) rfl (own_baload X0 hx hZ e0 V ((i + (1 : Int32)) + (1 : Int32)) (.int (own_at y0 y1 y2 y3 y4 y5 ((i + (1 : Int32)) + (1 : Int32)))) (own_a2 i ▸ own_tin (k := 2) h1 c1 hto c21 (by decide)) (own_get y0 y1 y2 y3 y4 y5 _ (own_a2 i ▸ own_tin (k := 2) h1 c1 hto c21 (by decide))) rfl rfl (hb hby own_d_prog_68_method_11_code_233) (XS.sipush X0.here hx rfl (hb hby own_d_prog_68_method_11_code_234) hr)))))))))) ?_
              show own_Go p e below _ (s₁.setTop (mkF m 237 #[.val (.ref a), .val (.int fr0), .val (.int to0), .val (.int (((i + (1 : Int32)) + (1 : Int32)) + (1 : Int32))), .val (.int ((own_at y0 y1 y2 y3 y4 y5 i) &&& (255 : Int32))), .val (.int (3 : Int32)), .val (.int (128 : Int32)), .val (.int (143 : Int32)), .val (.int ((own_at y0 y1 y2 y3 y4 y5 (i + (1 : Int32))) &&& (255 : Int32))), .val (.int (1 : Int32)), s10] [(.int (255 : Int32)), (.int (own_at y0 y1 y2 y3 y4 y5 ((i + (1 : Int32)) + (1 : Int32))))]))
              refine own_go (fun _ hr => XS.iand X0.here hx rfl (hb hby own_d_prog_68_method_11_code_237) rfl (XS.istoreS X0.here hx rfl (hb hby own_d_prog_68_method_11_code_238) rfl rfl o10 (XS.iload X0.here hx rfl (hb hby own_d_prog_68_method_11_code_240) rfl (XS.sipush X0.here hx rfl (hb hby own_d_prog_68_method_11_code_242) hr)))) ?_
              show own_Go p e below _ (s₁.setTop (mkF m 245 #[.val (.ref a), .val (.int fr0), .val (.int to0), .val (.int (((i + (1 : Int32)) + (1 : Int32)) + (1 : Int32))), .val (.int ((own_at y0 y1 y2 y3 y4 y5 i) &&& (255 : Int32))), .val (.int (3 : Int32)), .val (.int (128 : Int32)), .val (.int (143 : Int32)), .val (.int ((own_at y0 y1 y2 y3 y4 y5 (i + (1 : Int32))) &&& (255 : Int32))), .val (.int (1 : Int32)), .val (.int ((own_at y0 y1 y2 y3 y4 y5 ((i + (1 : Int32)) + (1 : Int32))) &&& (255 : Int32)))] [(.int (128 : Int32)), (.int ((own_at y0 y1 y2 y3 y4 y5 ((i + (1 : Int32)) + (1 : Int32))) &&& (255 : Int32)))]))
              rcases Classical.em (((own_at y0 y1 y2 y3 y4 y5 ((i + (1 : Int32)) + (1 : Int32))) &&& (255 : Int32)) < (128 : Int32)) with c24 | c24
              · skip
                refine own_go (fun _ hr => XS.icmpYes X0.here hx rfl (pc0 := 245) (pc' := 256) rfl (hb hby own_d_prog_68_method_11_code_245) rfl (tlt c24).1 (by decide) (by decide) hr) ?_
                show own_Go p e below _ (s₁.setTop (mkF m 256 #[.val (.ref a), .val (.int fr0), .val (.int to0), .val (.int (((i + (1 : Int32)) + (1 : Int32)) + (1 : Int32))), .val (.int ((own_at y0 y1 y2 y3 y4 y5 i) &&& (255 : Int32))), .val (.int (3 : Int32)), .val (.int (128 : Int32)), .val (.int (143 : Int32)), .val (.int ((own_at y0 y1 y2 y3 y4 y5 (i + (1 : Int32))) &&& (255 : Int32))), .val (.int (1 : Int32)), .val (.int ((own_at y0 y1 y2 y3 y4 y5 ((i + (1 : Int32)) + (1 : Int32))) &&& (255 : Int32)))] []))
                refine own_go (fun _ hr => XS.iconst X0.here hx rfl (hb hby own_d_prog_68_method_11_code_256) hr) ?_
                show own_Go p e below _ (s₁.setTop (mkF m 257 #[.val (.ref a), .val (.int fr0), .val (.int to0), .val (.int (((i + (1 : Int32)) + (1 : Int32)) + (1 : Int32))), .val (.int ((own_at y0 y1 y2 y3 y4 y5 i) &&& (255 : Int32))), .val (.int (3 : Int32)), .val (.int (128 : Int32)), .val (.int (143 : Int32)), .val (.int ((own_at y0 y1 y2 y3 y4 y5 (i + (1 : Int32))) &&& (255 : Int32))), .val (.int (1 : Int32)), .val (.int ((own_at y0 y1 y2 y3 y4 y5 ((i + (1 : Int32)) + (1 : Int32))) &&& (255 : Int32)))] [(.int (0 : Int32))]))
                have ht : own_turn y0 y1 y2 y3 y4 y5 i to0 = -1 := by unfold own_turn; rw [if_neg c2, if_neg c3, if_pos c6, if_pos c8, if_neg c10, if_neg c11, if_pos c20, if_neg c21, if_neg c22, if_neg c23, if_pos c24]
                obtain ⟨k', rfl⟩ : ∃ k', k = k' + 1 := ⟨k - 1, by have q := c1; rw [Int32.lt_iff_toInt_lt] at q; omega⟩
                exact own_retN X0 hx hlk Bd.returns (t := .boolean) (by simp) (hb hby own_d_prog_68_method_11_code_257) (by decide) (by decide) ⟨(congrArg (fun q => some (Value.int q)) (show (0 : Int32) = own_wf y0 y1 y2 y3 y4 y5 to0 6 fr0 from ((own_wf_bad y0 y1 y2 y3 y4 y5 to0 k' i c1 ht)).symm.trans hR)), N0, e0⟩
              refine own_go (fun _ hr => XS.icmpNo X0.here hx rfl (hb hby own_d_prog_68_method_11_code_245) rfl (flt c24).1 hr) ?_
              show own_Go p e below _ (s₁.setTop (mkF m 248 #[.val (.ref a), .val (.int fr0), .val (.int to0), .val (.int (((i + (1 : Int32)) + (1 : Int32)) + (1 : Int32))), .val (.int ((own_at y0 y1 y2 y3 y4 y5 i) &&& (255 : Int32))), .val (.int (3 : Int32)), .val (.int (128 : Int32)), .val (.int (143 : Int32)), .val (.int ((own_at y0 y1 y2 y3 y4 y5 (i + (1 : Int32))) &&& (255 : Int32))), .val (.int (1 : Int32)), .val (.int ((own_at y0 y1 y2 y3 y4 y5 ((i + (1 : Int32)) + (1 : Int32))) &&& (255 : Int32)))] []))
              refine own_go (fun _ hr => XS.iload X0.here hx rfl (hb hby own_d_prog_68_method_11_code_248) rfl (XS.sipush X0.here hx rfl (hb hby own_d_prog_68_method_11_code_250) hr)) ?_
              show own_Go p e below _ (s₁.setTop (mkF m 253 #[.val (.ref a), .val (.int fr0), .val (.int to0), .val (.int (((i + (1 : Int32)) + (1 : Int32)) + (1 : Int32))), .val (.int ((own_at y0 y1 y2 y3 y4 y5 i) &&& (255 : Int32))), .val (.int (3 : Int32)), .val (.int (128 : Int32)), .val (.int (143 : Int32)), .val (.int ((own_at y0 y1 y2 y3 y4 y5 (i + (1 : Int32))) &&& (255 : Int32))), .val (.int (1 : Int32)), .val (.int ((own_at y0 y1 y2 y3 y4 y5 ((i + (1 : Int32)) + (1 : Int32))) &&& (255 : Int32)))] [(.int (191 : Int32)), (.int ((own_at y0 y1 y2 y3 y4 y5 ((i + (1 : Int32)) + (1 : Int32))) &&& (255 : Int32)))]))
              rcases Classical.em ((191 : Int32) < ((own_at y0 y1 y2 y3 y4 y5 ((i + (1 : Int32)) + (1 : Int32))) &&& (255 : Int32))) with c25 | c25
              · skip
                refine own_go (fun _ hr => XS.icmpNo X0.here hx rfl (hb hby own_d_prog_68_method_11_code_253) rfl (tlt c25).2.2.2 hr) ?_
                show own_Go p e below _ (s₁.setTop (mkF m 256 #[.val (.ref a), .val (.int fr0), .val (.int to0), .val (.int (((i + (1 : Int32)) + (1 : Int32)) + (1 : Int32))), .val (.int ((own_at y0 y1 y2 y3 y4 y5 i) &&& (255 : Int32))), .val (.int (3 : Int32)), .val (.int (128 : Int32)), .val (.int (143 : Int32)), .val (.int ((own_at y0 y1 y2 y3 y4 y5 (i + (1 : Int32))) &&& (255 : Int32))), .val (.int (1 : Int32)), .val (.int ((own_at y0 y1 y2 y3 y4 y5 ((i + (1 : Int32)) + (1 : Int32))) &&& (255 : Int32)))] []))
                refine own_go (fun _ hr => XS.iconst X0.here hx rfl (hb hby own_d_prog_68_method_11_code_256) hr) ?_
                show own_Go p e below _ (s₁.setTop (mkF m 257 #[.val (.ref a), .val (.int fr0), .val (.int to0), .val (.int (((i + (1 : Int32)) + (1 : Int32)) + (1 : Int32))), .val (.int ((own_at y0 y1 y2 y3 y4 y5 i) &&& (255 : Int32))), .val (.int (3 : Int32)), .val (.int (128 : Int32)), .val (.int (143 : Int32)), .val (.int ((own_at y0 y1 y2 y3 y4 y5 (i + (1 : Int32))) &&& (255 : Int32))), .val (.int (1 : Int32)), .val (.int ((own_at y0 y1 y2 y3 y4 y5 ((i + (1 : Int32)) + (1 : Int32))) &&& (255 : Int32)))] [(.int (0 : Int32))]))
                have ht : own_turn y0 y1 y2 y3 y4 y5 i to0 = -1 := by unfold own_turn; rw [if_neg c2, if_neg c3, if_pos c6, if_pos c8, if_neg c10, if_neg c11, if_pos c20, if_neg c21, if_neg c22, if_neg c23, if_neg c24, if_pos c25]
                obtain ⟨k', rfl⟩ : ∃ k', k = k' + 1 := ⟨k - 1, by have q := c1; rw [Int32.lt_iff_toInt_lt] at q; omega⟩
                exact own_retN X0 hx hlk Bd.returns (t := .boolean) (by simp) (hb hby own_d_prog_68_method_11_code_257) (by decide) (by decide) ⟨(congrArg (fun q => some (Value.int q)) (show (0 : Int32) = own_wf y0 y1 y2 y3 y4 y5 to0 6 fr0 from ((own_wf_bad y0 y1 y2 y3 y4 y5 to0 k' i c1 ht)).symm.trans hR)), N0, e0⟩
              refine own_go (fun _ hr => XS.icmpYes X0.here hx rfl (pc0 := 253) (pc' := 258) rfl (hb hby own_d_prog_68_method_11_code_253) rfl (flt c25).2.2.2 (by decide) (by decide) hr) ?_
              show own_Go p e below _ (s₁.setTop (mkF m 258 #[.val (.ref a), .val (.int fr0), .val (.int to0), .val (.int (((i + (1 : Int32)) + (1 : Int32)) + (1 : Int32))), .val (.int ((own_at y0 y1 y2 y3 y4 y5 i) &&& (255 : Int32))), .val (.int (3 : Int32)), .val (.int (128 : Int32)), .val (.int (143 : Int32)), .val (.int ((own_at y0 y1 y2 y3 y4 y5 (i + (1 : Int32))) &&& (255 : Int32))), .val (.int (1 : Int32)), .val (.int ((own_at y0 y1 y2 y3 y4 y5 ((i + (1 : Int32)) + (1 : Int32))) &&& (255 : Int32)))] []))
              refine own_go (fun _ hr => XS.iinc X0.here hx rfl (hb hby own_d_prog_68_method_11_code_258) rfl (l' := #[.val (.ref a), .val (.int fr0), .val (.int to0), .val (.int (((i + (1 : Int32)) + (1 : Int32)) + (1 : Int32))), .val (.int ((own_at y0 y1 y2 y3 y4 y5 i) &&& (255 : Int32))), .val (.int (3 : Int32)), .val (.int (128 : Int32)), .val (.int (143 : Int32)), .val (.int ((own_at y0 y1 y2 y3 y4 y5 (i + (1 : Int32))) &&& (255 : Int32))), .val (.int (2 : Int32)), .val (.int ((own_at y0 y1 y2 y3 y4 y5 ((i + (1 : Int32)) + (1 : Int32))) &&& (255 : Int32)))]) rfl (XS.goto X0.here hx rfl (pc0 := 261) (pc' := 221) rfl (hb hby own_d_prog_68_method_11_code_261) (by decide) (by decide) (XS.iload X0.here hx rfl (hb hby own_d_prog_68_method_11_code_221) rfl (XS.iload X0.here hx rfl (hb hby own_d_prog_68_method_11_code_223) rfl (XS.icmpNo X0.here hx rfl (hb hby own_d_prog_68_method_11_code_225) rfl (tlt (by decide)).2.1 (XS.aloadN X0.here hx rfl (hb hby own_d_prog_68_method_11_code_228) rfl rfl (XS.iloadN X0.here hx rfl (hb hby own_d_prog_68_method_11_code_229) rfl (XS.iinc X0.here hx rfl (hb hby own_d_prog_68_method_11_code_230) rfl (l' := #[.val (.ref a), .val (.int fr0), .val (.int to0), .val (.int ((((i + (1 : Int32)) + (1 : Int32)) + (1 : Int32)) + (1 : Int32))), .val (.int ((own_at y0 y1 y2 y3 y4 y5 i) &&& (255 : Int32))), .val (.int (3 : Int32)), .val (.int (128 : Int32)), .val (.int (143 : Int32)), .val (.int ((own_at y0 y1 y2 y3 y4 y5 (i + (1 : Int32))) &&& (255 : Int32))), .val (.int (2 : Int32)), .val (.int ((own_at y0 y1 y2 y3 y4 y5 ((i + (1 : Int32)) + (1 : Int32))) &&& (255 : Int32)))]) rfl (own_baload X0 hx hZ e0 V (((i + (1 : Int32)) + (1 : Int32)) + (1 : Int32)) (.int (own_at y0 y1 y2 y3 y4 y5 (((i + (1 : Int32)) + (1 : Int32)) + (1 : Int32)))) (own_a3 i ▸ own_tin (k := 3) h1 c1 hto c21 (by decide)) (own_get y0 y1 y2 y3 y4 y5 _ (own_a3 i ▸ own_tin (k := 3) h1 c1 hto c21 (by decide))) rfl rfl (hb hby own_d_prog_68_method_11_code_233) (XS.sipush X0.here hx rfl (hb hby own_d_prog_68_method_11_code_234) hr)))))))))) ?_
              show own_Go p e below _ (s₁.setTop (mkF m 237 #[.val (.ref a), .val (.int fr0), .val (.int to0), .val (.int ((((i + (1 : Int32)) + (1 : Int32)) + (1 : Int32)) + (1 : Int32))), .val (.int ((own_at y0 y1 y2 y3 y4 y5 i) &&& (255 : Int32))), .val (.int (3 : Int32)), .val (.int (128 : Int32)), .val (.int (143 : Int32)), .val (.int ((own_at y0 y1 y2 y3 y4 y5 (i + (1 : Int32))) &&& (255 : Int32))), .val (.int (2 : Int32)), .val (.int ((own_at y0 y1 y2 y3 y4 y5 ((i + (1 : Int32)) + (1 : Int32))) &&& (255 : Int32)))] [(.int (255 : Int32)), (.int (own_at y0 y1 y2 y3 y4 y5 (((i + (1 : Int32)) + (1 : Int32)) + (1 : Int32))))]))
              refine own_go (fun _ hr => XS.iand X0.here hx rfl (hb hby own_d_prog_68_method_11_code_237) rfl (XS.istore X0.here hx rfl (hb hby own_d_prog_68_method_11_code_238) rfl (l' := #[.val (.ref a), .val (.int fr0), .val (.int to0), .val (.int ((((i + (1 : Int32)) + (1 : Int32)) + (1 : Int32)) + (1 : Int32))), .val (.int ((own_at y0 y1 y2 y3 y4 y5 i) &&& (255 : Int32))), .val (.int (3 : Int32)), .val (.int (128 : Int32)), .val (.int (143 : Int32)), .val (.int ((own_at y0 y1 y2 y3 y4 y5 (i + (1 : Int32))) &&& (255 : Int32))), .val (.int (2 : Int32)), .val (.int ((own_at y0 y1 y2 y3 y4 y5 (((i + (1 : Int32)) + (1 : Int32)) + (1 : Int32))) &&& (255 : Int32)))]) rfl (XS.iload X0.here hx rfl (hb hby own_d_prog_68_method_11_code_240) rfl (XS.sipush X0.here hx rfl (hb hby own_d_prog_68_method_11_code_242) hr)))) ?_
              show own_Go p e below _ (s₁.setTop (mkF m 245 #[.val (.ref a), .val (.int fr0), .val (.int to0), .val (.int ((((i + (1 : Int32)) + (1 : Int32)) + (1 : Int32)) + (1 : Int32))), .val (.int ((own_at y0 y1 y2 y3 y4 y5 i) &&& (255 : Int32))), .val (.int (3 : Int32)), .val (.int (128 : Int32)), .val (.int (143 : Int32)), .val (.int ((own_at y0 y1 y2 y3 y4 y5 (i + (1 : Int32))) &&& (255 : Int32))), .val (.int (2 : Int32)), .val (.int ((own_at y0 y1 y2 y3 y4 y5 (((i + (1 : Int32)) + (1 : Int32)) + (1 : Int32))) &&& (255 : Int32)))] [(.int (128 : Int32)), (.int ((own_at y0 y1 y2 y3 y4 y5 (((i + (1 : Int32)) + (1 : Int32)) + (1 : Int32))) &&& (255 : Int32)))]))
              rcases Classical.em (((own_at y0 y1 y2 y3 y4 y5 (((i + (1 : Int32)) + (1 : Int32)) + (1 : Int32))) &&& (255 : Int32)) < (128 : Int32)) with c26 | c26
              · skip
                refine own_go (fun _ hr => XS.icmpYes X0.here hx rfl (pc0 := 245) (pc' := 256) rfl (hb hby own_d_prog_68_method_11_code_245) rfl (tlt c26).1 (by decide) (by decide) hr) ?_
                show own_Go p e below _ (s₁.setTop (mkF m 256 #[.val (.ref a), .val (.int fr0), .val (.int to0), .val (.int ((((i + (1 : Int32)) + (1 : Int32)) + (1 : Int32)) + (1 : Int32))), .val (.int ((own_at y0 y1 y2 y3 y4 y5 i) &&& (255 : Int32))), .val (.int (3 : Int32)), .val (.int (128 : Int32)), .val (.int (143 : Int32)), .val (.int ((own_at y0 y1 y2 y3 y4 y5 (i + (1 : Int32))) &&& (255 : Int32))), .val (.int (2 : Int32)), .val (.int ((own_at y0 y1 y2 y3 y4 y5 (((i + (1 : Int32)) + (1 : Int32)) + (1 : Int32))) &&& (255 : Int32)))] []))
                refine own_go (fun _ hr => XS.iconst X0.here hx rfl (hb hby own_d_prog_68_method_11_code_256) hr) ?_
                show own_Go p e below _ (s₁.setTop (mkF m 257 #[.val (.ref a), .val (.int fr0), .val (.int to0), .val (.int ((((i + (1 : Int32)) + (1 : Int32)) + (1 : Int32)) + (1 : Int32))), .val (.int ((own_at y0 y1 y2 y3 y4 y5 i) &&& (255 : Int32))), .val (.int (3 : Int32)), .val (.int (128 : Int32)), .val (.int (143 : Int32)), .val (.int ((own_at y0 y1 y2 y3 y4 y5 (i + (1 : Int32))) &&& (255 : Int32))), .val (.int (2 : Int32)), .val (.int ((own_at y0 y1 y2 y3 y4 y5 (((i + (1 : Int32)) + (1 : Int32)) + (1 : Int32))) &&& (255 : Int32)))] [(.int (0 : Int32))]))
                have ht : own_turn y0 y1 y2 y3 y4 y5 i to0 = -1 := by unfold own_turn; rw [if_neg c2, if_neg c3, if_pos c6, if_pos c8, if_neg c10, if_neg c11, if_pos c20, if_neg c21, if_neg c22, if_neg c23, if_neg c24, if_neg c25, if_pos c26]
                obtain ⟨k', rfl⟩ : ∃ k', k = k' + 1 := ⟨k - 1, by have q := c1; rw [Int32.lt_iff_toInt_lt] at q; omega⟩
                exact own_retN X0 hx hlk Bd.returns (t := .boolean) (by simp) (hb hby own_d_prog_68_method_11_code_257) (by decide) (by decide) ⟨(congrArg (fun q => some (Value.int q)) (show (0 : Int32) = own_wf y0 y1 y2 y3 y4 y5 to0 6 fr0 from ((own_wf_bad y0 y1 y2 y3 y4 y5 to0 k' i c1 ht)).symm.trans hR)), N0, e0⟩
              refine own_go (fun _ hr => XS.icmpNo X0.here hx rfl (hb hby own_d_prog_68_method_11_code_245) rfl (flt c26).1 hr) ?_
              show own_Go p e below _ (s₁.setTop (mkF m 248 #[.val (.ref a), .val (.int fr0), .val (.int to0), .val (.int ((((i + (1 : Int32)) + (1 : Int32)) + (1 : Int32)) + (1 : Int32))), .val (.int ((own_at y0 y1 y2 y3 y4 y5 i) &&& (255 : Int32))), .val (.int (3 : Int32)), .val (.int (128 : Int32)), .val (.int (143 : Int32)), .val (.int ((own_at y0 y1 y2 y3 y4 y5 (i + (1 : Int32))) &&& (255 : Int32))), .val (.int (2 : Int32)), .val (.int ((own_at y0 y1 y2 y3 y4 y5 (((i + (1 : Int32)) + (1 : Int32)) + (1 : Int32))) &&& (255 : Int32)))] []))
              refine own_go (fun _ hr => XS.iload X0.here hx rfl (hb hby own_d_prog_68_method_11_code_248) rfl (XS.sipush X0.here hx rfl (hb hby own_d_prog_68_method_11_code_250) hr)) ?_
              show own_Go p e below _ (s₁.setTop (mkF m 253 #[.val (.ref a), .val (.int fr0), .val (.int to0), .val (.int ((((i + (1 : Int32)) + (1 : Int32)) + (1 : Int32)) + (1 : Int32))), .val (.int ((own_at y0 y1 y2 y3 y4 y5 i) &&& (255 : Int32))), .val (.int (3 : Int32)), .val (.int (128 : Int32)), .val (.int (143 : Int32)), .val (.int ((own_at y0 y1 y2 y3 y4 y5 (i + (1 : Int32))) &&& (255 : Int32))), .val (.int (2 : Int32)), .val (.int ((own_at y0 y1 y2 y3 y4 y5 (((i + (1 : Int32)) + (1 : Int32)) + (1 : Int32))) &&& (255 : Int32)))] [(.int (191 : Int32)), (.int ((own_at y0 y1 y2 y3 y4 y5 (((i + (1 : Int32)) + (1 : Int32)) + (1 : Int32))) &&& (255 : Int32)))]))
              rcases Classical.em ((191 : Int32) < ((own_at y0 y1 y2 y3 y4 y5 (((i + (1 : Int32)) + (1 : Int32)) + (1 : Int32))) &&& (255 : Int32))) with c27 | c27
              · skip
                refine own_go (fun _ hr => XS.icmpNo X0.here hx rfl (hb hby own_d_prog_68_method_11_code_253) rfl (tlt c27).2.2.2 hr) ?_
                show own_Go p e below _ (s₁.setTop (mkF m 256 #[.val (.ref a), .val (.int fr0), .val (.int to0), .val (.int ((((i + (1 : Int32)) + (1 : Int32)) + (1 : Int32)) + (1 : Int32))), .val (.int ((own_at y0 y1 y2 y3 y4 y5 i) &&& (255 : Int32))), .val (.int (3 : Int32)), .val (.int (128 : Int32)), .val (.int (143 : Int32)), .val (.int ((own_at y0 y1 y2 y3 y4 y5 (i + (1 : Int32))) &&& (255 : Int32))), .val (.int (2 : Int32)), .val (.int ((own_at y0 y1 y2 y3 y4 y5 (((i + (1 : Int32)) + (1 : Int32)) + (1 : Int32))) &&& (255 : Int32)))] []))
                refine own_go (fun _ hr => XS.iconst X0.here hx rfl (hb hby own_d_prog_68_method_11_code_256) hr) ?_
                show own_Go p e below _ (s₁.setTop (mkF m 257 #[.val (.ref a), .val (.int fr0), .val (.int to0), .val (.int ((((i + (1 : Int32)) + (1 : Int32)) + (1 : Int32)) + (1 : Int32))), .val (.int ((own_at y0 y1 y2 y3 y4 y5 i) &&& (255 : Int32))), .val (.int (3 : Int32)), .val (.int (128 : Int32)), .val (.int (143 : Int32)), .val (.int ((own_at y0 y1 y2 y3 y4 y5 (i + (1 : Int32))) &&& (255 : Int32))), .val (.int (2 : Int32)), .val (.int ((own_at y0 y1 y2 y3 y4 y5 (((i + (1 : Int32)) + (1 : Int32)) + (1 : Int32))) &&& (255 : Int32)))] [(.int (0 : Int32))]))
                have ht : own_turn y0 y1 y2 y3 y4 y5 i to0 = -1 := by unfold own_turn; rw [if_neg c2, if_neg c3, if_pos c6, if_pos c8, if_neg c10, if_neg c11, if_pos c20, if_neg c21, if_neg c22, if_neg c23, if_neg c24, if_neg c25, if_neg c26, if_pos c27]
                obtain ⟨k', rfl⟩ : ∃ k', k = k' + 1 := ⟨k - 1, by have q := c1; rw [Int32.lt_iff_toInt_lt] at q; omega⟩
                exact own_retN X0 hx hlk Bd.returns (t := .boolean) (by simp) (hb hby own_d_prog_68_method_11_code_257) (by decide) (by decide) ⟨(congrArg (fun q => some (Value.int q)) (show (0 : Int32) = own_wf y0 y1 y2 y3 y4 y5 to0 6 fr0 from ((own_wf_bad y0 y1 y2 y3 y4 y5 to0 k' i c1 ht)).symm.trans hR)), N0, e0⟩
              refine own_go (fun _ hr => XS.icmpYes X0.here hx rfl (pc0 := 253) (pc' := 258) rfl (hb hby own_d_prog_68_method_11_code_253) rfl (flt c27).2.2.2 (by decide) (by decide) hr) ?_
              show own_Go p e below _ (s₁.setTop (mkF m 258 #[.val (.ref a), .val (.int fr0), .val (.int to0), .val (.int ((((i + (1 : Int32)) + (1 : Int32)) + (1 : Int32)) + (1 : Int32))), .val (.int ((own_at y0 y1 y2 y3 y4 y5 i) &&& (255 : Int32))), .val (.int (3 : Int32)), .val (.int (128 : Int32)), .val (.int (143 : Int32)), .val (.int ((own_at y0 y1 y2 y3 y4 y5 (i + (1 : Int32))) &&& (255 : Int32))), .val (.int (2 : Int32)), .val (.int ((own_at y0 y1 y2 y3 y4 y5 (((i + (1 : Int32)) + (1 : Int32)) + (1 : Int32))) &&& (255 : Int32)))] []))
              refine own_go (fun _ hr => XS.iinc X0.here hx rfl (hb hby own_d_prog_68_method_11_code_258) rfl (l' := #[.val (.ref a), .val (.int fr0), .val (.int to0), .val (.int ((((i + (1 : Int32)) + (1 : Int32)) + (1 : Int32)) + (1 : Int32))), .val (.int ((own_at y0 y1 y2 y3 y4 y5 i) &&& (255 : Int32))), .val (.int (3 : Int32)), .val (.int (128 : Int32)), .val (.int (143 : Int32)), .val (.int ((own_at y0 y1 y2 y3 y4 y5 (i + (1 : Int32))) &&& (255 : Int32))), .val (.int (3 : Int32)), .val (.int ((own_at y0 y1 y2 y3 y4 y5 (((i + (1 : Int32)) + (1 : Int32)) + (1 : Int32))) &&& (255 : Int32)))]) rfl (XS.goto X0.here hx rfl (pc0 := 261) (pc' := 221) rfl (hb hby own_d_prog_68_method_11_code_261) (by decide) (by decide) (XS.iload X0.here hx rfl (hb hby own_d_prog_68_method_11_code_221) rfl (XS.iload X0.here hx rfl (hb hby own_d_prog_68_method_11_code_223) rfl (XS.icmpYes X0.here hx rfl (pc0 := 225) (pc' := 264) rfl (hb hby own_d_prog_68_method_11_code_225) rfl (flt (by decide)).2.1 (by decide) (by decide) (XS.goto X0.here hx rfl (pc0 := 264) (pc' := 2) rfl (hb hby own_d_prog_68_method_11_code_264) (by decide) (by decide) hr)))))) ?_
              show own_Go p e below _ (s₁.setTop (mkF m 2 #[.val (.ref a), .val (.int fr0), .val (.int to0), .val (.int ((((i + (1 : Int32)) + (1 : Int32)) + (1 : Int32)) + (1 : Int32))), .val (.int ((own_at y0 y1 y2 y3 y4 y5 i) &&& (255 : Int32))), .val (.int (3 : Int32)), .val (.int (128 : Int32)), .val (.int (143 : Int32)), .val (.int ((own_at y0 y1 y2 y3 y4 y5 (i + (1 : Int32))) &&& (255 : Int32))), .val (.int (3 : Int32)), .val (.int ((own_at y0 y1 y2 y3 y4 y5 (((i + (1 : Int32)) + (1 : Int32)) + (1 : Int32))) &&& (255 : Int32)))] []))
              have ht : own_turn y0 y1 y2 y3 y4 y5 i to0 = ((((i + (1 : Int32)) + (1 : Int32)) + (1 : Int32)) + (1 : Int32)) := by unfold own_turn; rw [if_neg c2, if_neg c3, if_pos c6, if_pos c8, if_neg c10, if_neg c11, if_pos c20, if_neg c21, if_neg c22, if_neg c23, if_neg c24, if_neg c25, if_neg c26, if_neg c27]
              obtain ⟨k', rfl⟩ : ∃ k', k = k' + 1 := ⟨k - 1, by have q := c1; rw [Int32.lt_iff_toInt_lt] at q; omega⟩
              have hb : i.toInt < (((((i + (1 : Int32)) + (1 : Int32)) + (1 : Int32)) + (1 : Int32))).toInt ∧ (((((i + (1 : Int32)) + (1 : Int32)) + (1 : Int32)) + (1 : Int32))).toInt ≤ to0.toInt ∧ ¬ ((((i + (1 : Int32)) + (1 : Int32)) + (1 : Int32)) + (1 : Int32)) = -1 := by
                have q0 := rng32 i
                have q1 := c_iadd i (1 : Int32)
                have r1 := rng32 (i + (1 : Int32))
                have q2 := c_iadd (i + (1 : Int32)) (1 : Int32)
                have r2 := rng32 ((i + (1 : Int32)) + (1 : Int32))
                have q3 := c_iadd ((i + (1 : Int32)) + (1 : Int32)) (1 : Int32)
                have r3 := rng32 (((i + (1 : Int32)) + (1 : Int32)) + (1 : Int32))
                have q4 := c_iadd (((i + (1 : Int32)) + (1 : Int32)) + (1 : Int32)) (1 : Int32)
                have r4 := rng32 ((((i + (1 : Int32)) + (1 : Int32)) + (1 : Int32)) + (1 : Int32))
                have q5 := rng32 to0
                have q6 := c_isub to0 (i + (1 : Int32))
                have r6 := rng32 (to0 - (i + (1 : Int32)))
                have p0 := c1
                have p1 := c21
                simp only [true_implies, Int32.lt_iff_toInt_lt, ← Int32.toInt_inj, Int32.reduceToInt, Int64.lt_iff_toInt_lt, ← Int64.toInt_inj, Int64.reduceToInt] at q0 q1 q2 q3 q4 q5 q6 p0 p1 ⊢
                omega
              exact ih k' (Nat.lt_succ_self _) ((((i + (1 : Int32)) + (1 : Int32)) + (1 : Int32)) + (1 : Int32)) _ _ _ _ _ _ _ (One.val rfl) (One.val rfl) (One.val rfl) (One.val rfl) (One.val rfl) (One.val rfl) (One.val rfl) (by omega) hb.2.1 (by omega) ((own_wf_on y0 y1 y2 y3 y4 y5 to0 k' i _ c1 ht hb.2.2).symm.trans hR)
            refine own_go (fun _ hr => XS.icmpYes X0.here hx rfl (pc0 := 162) (pc' := 171) rfl (hb hby own_d_prog_68_method_11_code_162) rfl (feq c20).2 (by decide) (by decide) hr) ?_
            show own_Go p e below _ (s₁.setTop (mkF m 171 #[.val (.ref a), .val (.int fr0), .val (.int to0), .val (.int (i + (1 : Int32))), .val (.int ((own_at y0 y1 y2 y3 y4 y5 i) &&& (255 : Int32))), .val (.int (3 : Int32)), .val (.int (128 : Int32)), .val (.int (191 : Int32)), s8, s9, s10] []))
            refine own_go (fun _ hr => XS.iload X0.here hx rfl (hb hby own_d_prog_68_method_11_code_171) rfl (XS.istore X0.here hx rfl (hb hby own_d_prog_68_method_11_code_173) rfl (l' := #[.val (.ref a), .val (.int fr0), .val (.int to0), .val (.int (i + (1 : Int32))), .val (.int ((own_at y0 y1 y2 y3 y4 y5 i) &&& (255 : Int32))), .val (.int (3 : Int32)), .val (.int (128 : Int32)), .val (.int (191 : Int32)), s8, s9, s10]) rfl (XS.goto X0.here hx rfl (pc0 := 175) (pc' := 180) rfl (hb hby own_d_prog_68_method_11_code_175) (by decide) (by decide) (XS.iloadN X0.here hx rfl (hb hby own_d_prog_68_method_11_code_180) rfl (XS.iloadN X0.here hx rfl (hb hby own_d_prog_68_method_11_code_181) rfl (XS.isub X0.here hx rfl (hb hby own_d_prog_68_method_11_code_182) rfl (XS.iload X0.here hx rfl (hb hby own_d_prog_68_method_11_code_183) rfl hr))))))) ?_
            show own_Go p e below _ (s₁.setTop (mkF m 185 #[.val (.ref a), .val (.int fr0), .val (.int to0), .val (.int (i + (1 : Int32))), .val (.int ((own_at y0 y1 y2 y3 y4 y5 i) &&& (255 : Int32))), .val (.int (3 : Int32)), .val (.int (128 : Int32)), .val (.int (191 : Int32)), s8, s9, s10] [(.int (3 : Int32)), (.int (to0 - (i + (1 : Int32))))]))
            rcases Classical.em ((to0 - (i + (1 : Int32))) < (3 : Int32)) with c28 | c28
            · skip
              refine own_go (fun _ hr => XS.icmpNo X0.here hx rfl (hb hby own_d_prog_68_method_11_code_185) rfl (tlt c28).2.1 hr) ?_
              show own_Go p e below _ (s₁.setTop (mkF m 188 #[.val (.ref a), .val (.int fr0), .val (.int to0), .val (.int (i + (1 : Int32))), .val (.int ((own_at y0 y1 y2 y3 y4 y5 i) &&& (255 : Int32))), .val (.int (3 : Int32)), .val (.int (128 : Int32)), .val (.int (191 : Int32)), s8, s9, s10] []))
              refine own_go (fun _ hr => XS.iconst X0.here hx rfl (hb hby own_d_prog_68_method_11_code_188) hr) ?_
              show own_Go p e below _ (s₁.setTop (mkF m 189 #[.val (.ref a), .val (.int fr0), .val (.int to0), .val (.int (i + (1 : Int32))), .val (.int ((own_at y0 y1 y2 y3 y4 y5 i) &&& (255 : Int32))), .val (.int (3 : Int32)), .val (.int (128 : Int32)), .val (.int (191 : Int32)), s8, s9, s10] [(.int (0 : Int32))]))
              have ht : own_turn y0 y1 y2 y3 y4 y5 i to0 = -1 := by unfold own_turn; rw [if_neg c2, if_neg c3, if_pos c6, if_pos c8, if_neg c10, if_neg c11, if_neg c20, if_pos c28]
              obtain ⟨k', rfl⟩ : ∃ k', k = k' + 1 := ⟨k - 1, by have q := c1; rw [Int32.lt_iff_toInt_lt] at q; omega⟩
              exact own_retN X0 hx hlk Bd.returns (t := .boolean) (by simp) (hb hby own_d_prog_68_method_11_code_189) (by decide) (by decide) ⟨(congrArg (fun q => some (Value.int q)) (show (0 : Int32) = own_wf y0 y1 y2 y3 y4 y5 to0 6 fr0 from ((own_wf_bad y0 y1 y2 y3 y4 y5 to0 k' i c1 ht)).symm.trans hR)), N0, e0⟩
            refine own_go (fun _ hr => XS.icmpYes X0.here hx rfl (pc0 := 185) (pc' := 190) rfl (hb hby own_d_prog_68_method_11_code_185) rfl (flt c28).2.1 (by decide) (by decide) hr) ?_
            show own_Go p e below _ (s₁.setTop (mkF m 190 #[.val (.ref a), .val (.int fr0), .val (.int to0), .val (.int (i + (1 : Int32))), .val (.int ((own_at y0 y1 y2 y3 y4 y5 i) &&& (255 : Int32))), .val (.int (3 : Int32)), .val (.int (128 : Int32)), .val (.int (191 : Int32)), s8, s9, s10] []))
            refine own_go (fun _ hr => XS.aloadN X0.here hx rfl (hb hby own_d_prog_68_method_11_code_190) rfl rfl (XS.iloadN X0.here hx rfl (hb hby own_d_prog_68_method_11_code_191) rfl (XS.iinc X0.here hx rfl (hb hby own_d_prog_68_method_11_code_192) rfl (l' := #[.val (.ref a), .val (.int fr0), .val (.int to0), .val (.int ((i + (1 : Int32)) + (1 : Int32))), .val (.int ((own_at y0 y1 y2 y3 y4 y5 i) &&& (255 : Int32))), .val (.int (3 : Int32)), .val (.int (128 : Int32)), .val (.int (191 : Int32)), s8, s9, s10]) rfl (own_baload X0 hx hZ e0 V (i + (1 : Int32)) (.int (own_at y0 y1 y2 y3 y4 y5 (i + (1 : Int32)))) (own_tin h1 c1 hto c28 (by decide)) (own_get y0 y1 y2 y3 y4 y5 _ (own_tin h1 c1 hto c28 (by decide))) rfl rfl (hb hby own_d_prog_68_method_11_code_195) (XS.sipush X0.here hx rfl (hb hby own_d_prog_68_method_11_code_196) (XS.iand X0.here hx rfl (hb hby own_d_prog_68_method_11_code_199) rfl (XS.istoreS X0.here hx rfl (hb hby own_d_prog_68_method_11_code_200) rfl rfl o8 (XS.iload X0.here hx rfl (hb hby own_d_prog_68_method_11_code_202) rfl (XS.iload X0.here hx rfl (hb hby own_d_prog_68_method_11_code_204) rfl hr))))))))) ?_
            show own_Go p e below _ (s₁.setTop (mkF m 206 #[.val (.ref a), .val (.int fr0), .val (.int to0), .val (.int ((i + (1 : Int32)) + (1 : Int32))), .val (.int ((own_at y0 y1 y2 y3 y4 y5 i) &&& (255 : Int32))), .val (.int (3 : Int32)), .val (.int (128 : Int32)), .val (.int (191 : Int32)), .val (.int ((own_at y0 y1 y2 y3 y4 y5 (i + (1 : Int32))) &&& (255 : Int32))), s9, s10] [(.int (128 : Int32)), (.int ((own_at y0 y1 y2 y3 y4 y5 (i + (1 : Int32))) &&& (255 : Int32)))]))
            rcases Classical.em (((own_at y0 y1 y2 y3 y4 y5 (i + (1 : Int32))) &&& (255 : Int32)) < (128 : Int32)) with c29 | c29
            · skip
              refine own_go (fun _ hr => XS.icmpYes X0.here hx rfl (pc0 := 206) (pc' := 216) rfl (hb hby own_d_prog_68_method_11_code_206) rfl (tlt c29).1 (by decide) (by decide) hr) ?_
              show own_Go p e below _ (s₁.setTop (mkF m 216 #[.val (.ref a), .val (.int fr0), .val (.int to0), .val (.int ((i + (1 : Int32)) + (1 : Int32))), .val (.int ((own_at y0 y1 y2 y3 y4 y5 i) &&& (255 : Int32))), .val (.int (3 : Int32)), .val (.int (128 : Int32)), .val (.int (191 : Int32)), .val (.int ((own_at y0 y1 y2 y3 y4 y5 (i + (1 : Int32))) &&& (255 : Int32))), s9, s10] []))
              refine own_go (fun _ hr => XS.iconst X0.here hx rfl (hb hby own_d_prog_68_method_11_code_216) hr) ?_
              show own_Go p e below _ (s₁.setTop (mkF m 217 #[.val (.ref a), .val (.int fr0), .val (.int to0), .val (.int ((i + (1 : Int32)) + (1 : Int32))), .val (.int ((own_at y0 y1 y2 y3 y4 y5 i) &&& (255 : Int32))), .val (.int (3 : Int32)), .val (.int (128 : Int32)), .val (.int (191 : Int32)), .val (.int ((own_at y0 y1 y2 y3 y4 y5 (i + (1 : Int32))) &&& (255 : Int32))), s9, s10] [(.int (0 : Int32))]))
              have ht : own_turn y0 y1 y2 y3 y4 y5 i to0 = -1 := by unfold own_turn; rw [if_neg c2, if_neg c3, if_pos c6, if_pos c8, if_neg c10, if_neg c11, if_neg c20, if_neg c28, if_pos c29]
              obtain ⟨k', rfl⟩ : ∃ k', k = k' + 1 := ⟨k - 1, by have q := c1; rw [Int32.lt_iff_toInt_lt] at q; omega⟩
              exact own_retN X0 hx hlk Bd.returns (t := .boolean) (by simp) (hb hby own_d_prog_68_method_11_code_217) (by decide) (by decide) ⟨(congrArg (fun q => some (Value.int q)) (show (0 : Int32) = own_wf y0 y1 y2 y3 y4 y5 to0 6 fr0 from ((own_wf_bad y0 y1 y2 y3 y4 y5 to0 k' i c1 ht)).symm.trans hR)), N0, e0⟩
            refine own_go (fun _ hr => XS.icmpNo X0.here hx rfl (hb hby own_d_prog_68_method_11_code_206) rfl (flt c29).1 hr) ?_
            show own_Go p e below _ (s₁.setTop (mkF m 209 #[.val (.ref a), .val (.int fr0), .val (.int to0), .val (.int ((i + (1 : Int32)) + (1 : Int32))), .val (.int ((own_at y0 y1 y2 y3 y4 y5 i) &&& (255 : Int32))), .val (.int (3 : Int32)), .val (.int (128 : Int32)), .val (.int (191 : Int32)), .val (.int ((own_at y0 y1 y2 y3 y4 y5 (i + (1 : Int32))) &&& (255 : Int32))), s9, s10] []))
            refine own_go (fun _ hr => XS.iload X0.here hx rfl (hb hby own_d_prog_68_method_11_code_209) rfl (XS.iload X0.here hx rfl (hb hby own_d_prog_68_method_11_code_211) rfl hr)) ?_
            show own_Go p e below _ (s₁.setTop (mkF m 213 #[.val (.ref a), .val (.int fr0), .val (.int to0), .val (.int ((i + (1 : Int32)) + (1 : Int32))), .val (.int ((own_at y0 y1 y2 y3 y4 y5 i) &&& (255 : Int32))), .val (.int (3 : Int32)), .val (.int (128 : Int32)), .val (.int (191 : Int32)), .val (.int ((own_at y0 y1 y2 y3 y4 y5 (i + (1 : Int32))) &&& (255 : Int32))), s9, s10] [(.int (191 : Int32)), (.int ((own_at y0 y1 y2 y3 y4 y5 (i + (1 : Int32))) &&& (255 : Int32)))]))
            rcases Classical.em ((191 : Int32) < ((own_at y0 y1 y2 y3 y4 y5 (i + (1 : Int32))) &&& (255 : Int32))) with c30 | c30
            · skip
              refine own_go (fun _ hr => XS.icmpNo X0.here hx rfl (hb hby own_d_prog_68_method_11_code_213) rfl (tlt c30).2.2.2 hr) ?_
              show own_Go p e below _ (s₁.setTop (mkF m 216 #[.val (.ref a), .val (.int fr0), .val (.int to0), .val (.int ((i + (1 : Int32)) + (1 : Int32))), .val (.int ((own_at y0 y1 y2 y3 y4 y5 i) &&& (255 : Int32))), .val (.int (3 : Int32)), .val (.int (128 : Int32)), .val (.int (191 : Int32)), .val (.int ((own_at y0 y1 y2 y3 y4 y5 (i + (1 : Int32))) &&& (255 : Int32))), s9, s10] []))
              refine own_go (fun _ hr => XS.iconst X0.here hx rfl (hb hby own_d_prog_68_method_11_code_216) hr) ?_
              show own_Go p e below _ (s₁.setTop (mkF m 217 #[.val (.ref a), .val (.int fr0), .val (.int to0), .val (.int ((i + (1 : Int32)) + (1 : Int32))), .val (.int ((own_at y0 y1 y2 y3 y4 y5 i) &&& (255 : Int32))), .val (.int (3 : Int32)), .val (.int (128 : Int32)), .val (.int (191 : Int32)), .val (.int ((own_at y0 y1 y2 y3 y4 y5 (i + (1 : Int32))) &&& (255 : Int32))), s9, s10] [(.int (0 : Int32))]))
              have ht : own_turn y0 y1 y2 y3 y4 y5 i to0 = -1 := by unfold own_turn; rw [if_neg c2, if_neg c3, if_pos c6, if_pos c8, if_neg c10, if_neg c11, if_neg c20, if_neg c28, if_neg c29, if_pos c30]
              obtain ⟨k', rfl⟩ : ∃ k', k = k' + 1 := ⟨k - 1, by have q := c1; rw [Int32.lt_iff_toInt_lt] at q; omega⟩
              exact own_retN X0 hx hlk Bd.returns (t := .boolean) (by simp) (hb hby own_d_prog_68_method_11_code_217) (by decide) (by decide) ⟨(congrArg (fun q => some (Value.int q)) (show (0 : Int32) = own_wf y0 y1 y2 y3 y4 y5 to0 6 fr0 from ((own_wf_bad y0 y1 y2 y3 y4 y5 to0 k' i c1 ht)).symm.trans hR)), N0, e0⟩
            refine own_go (fun _ hr => XS.icmpYes X0.here hx rfl (pc0 := 213) (pc' := 218) rfl (hb hby own_d_prog_68_method_11_code_213) rfl (flt c30).2.2.2 (by decide) (by decide) hr) ?_
            show own_Go p e below _ (s₁.setTop (mkF m 218 #[.val (.ref a), .val (.int fr0), .val (.int to0), .val (.int ((i + (1 : Int32)) + (1 : Int32))), .val (.int ((own_at y0 y1 y2 y3 y4 y5 i) &&& (255 : Int32))), .val (.int (3 : Int32)), .val (.int (128 : Int32)), .val (.int (191 : Int32)), .val (.int ((own_at y0 y1 y2 y3 y4 y5 (i + (1 : Int32))) &&& (255 : Int32))), s9, s10] []))
            refine own_go (fun _ hr => XS.iconst X0.here hx rfl (hb hby own_d_prog_68_method_11_code_218) (XS.istoreS X0.here hx rfl (hb hby own_d_prog_68_method_11_code_219) rfl rfl o9 (XS.iload X0.here hx rfl (hb hby own_d_prog_68_method_11_code_221) rfl (XS.iload X0.here hx rfl (hb hby own_d_prog_68_method_11_code_223) rfl (XS.icmpNo X0.here hx rfl (hb hby own_d_prog_68_method_11_code_225) rfl (tlt (by decide)).2.1 (XS.aloadN X0.here hx rfl (hb hby own_d_prog_68_method_11_code_228) rfl rfl (XS.iloadN X0.here hx rfl (hb hby own_d_prog_68_method_11_code_229) rfl (XS.iinc X0.here hx rfl (hb hby own_d_prog_68_method_11_code_230) rfl (l' := #[.val (.ref a), .val (.int fr0), .val (.int to0), .val (.int (((i + (1 : Int32)) + (1 : Int32)) + (1 : Int32))), .val (.int ((own_at y0 y1 y2 y3 y4 y5 i) &&& (255 : Int32))), .val (.int (3 : Int32)), .val (.int (128 : Int32)), .val (.int (191 : Int32)), .val (.int ((own_at y0 y1 y2 y3 y4 y5 (i + (1 : Int32))) &&& (255 : Int32))), .val (.int (1 : Int32)), s10]) rfl (own_baload X0 hx hZ e0 V ((i + (1 : Int32)) + (1 : Int32)) (.int (own_at y0 y1 y2 y3 y4 y5 ((i + (1 : Int32)) + (1 : Int32)))) (own_a2 i ▸ own_tin (k := 2) h1 c1 hto c28 (by decide)) (own_get y0 y1 y2 y3 y4 y5 _ (own_a2 i ▸ own_tin (k := 2) h1 c1 hto c28 (by decide))) rfl rfl (hb hby own_d_prog_68_method_11_code_233) (XS.sipush X0.here hx rfl (hb hby own_d_prog_68_method_11_code_234) hr)))))))))) ?_
            show own_Go p e below _ (s₁.setTop (mkF m 237 #[.val (.ref a), .val (.int fr0), .val (.int to0), .val (.int (((i + (1 : Int32)) + (1 : Int32)) + (1 : Int32))), .val (.int ((own_at y0 y1 y2 y3 y4 y5 i) &&& (255 : Int32))), .val (.int (3 : Int32)), .val (.int (128 : Int32)), .val (.int (191 : Int32)), .val (.int ((own_at y0 y1 y2 y3 y4 y5 (i + (1 : Int32))) &&& (255 : Int32))), .val (.int (1 : Int32)), s10] [(.int (255 : Int32)), (.int (own_at y0 y1 y2 y3 y4 y5 ((i + (1 : Int32)) + (1 : Int32))))]))
            refine own_go (fun _ hr => XS.iand X0.here hx rfl (hb hby own_d_prog_68_method_11_code_237) rfl (XS.istoreS X0.here hx rfl (hb hby own_d_prog_68_method_11_code_238) rfl rfl o10 (XS.iload X0.here hx rfl (hb hby own_d_prog_68_method_11_code_240) rfl (XS.sipush X0.here hx rfl (hb hby own_d_prog_68_method_11_code_242) hr)))) ?_
            show own_Go p e below _ (s₁.setTop (mkF m 245 #[.val (.ref a), .val (.int fr0), .val (.int to0), .val (.int (((i + (1 : Int32)) + (1 : Int32)) + (1 : Int32))), .val (.int ((own_at y0 y1 y2 y3 y4 y5 i) &&& (255 : Int32))), .val (.int (3 : Int32)), .val (.int (128 : Int32)), .val (.int (191 : Int32)), .val (.int ((own_at y0 y1 y2 y3 y4 y5 (i + (1 : Int32))) &&& (255 : Int32))), .val (.int (1 : Int32)), .val (.int ((own_at y0 y1 y2 y3 y4 y5 ((i + (1 : Int32)) + (1 : Int32))) &&& (255 : Int32)))] [(.int (128 : Int32)), (.int ((own_at y0 y1 y2 y3 y4 y5 ((i + (1 : Int32)) + (1 : Int32))) &&& (255 : Int32)))]))
            rcases Classical.em (((own_at y0 y1 y2 y3 y4 y5 ((i + (1 : Int32)) + (1 : Int32))) &&& (255 : Int32)) < (128 : Int32)) with c31 | c31
            · skip
              refine own_go (fun _ hr => XS.icmpYes X0.here hx rfl (pc0 := 245) (pc' := 256) rfl (hb hby own_d_prog_68_method_11_code_245) rfl (tlt c31).1 (by decide) (by decide) hr) ?_
              show own_Go p e below _ (s₁.setTop (mkF m 256 #[.val (.ref a), .val (.int fr0), .val (.int to0), .val (.int (((i + (1 : Int32)) + (1 : Int32)) + (1 : Int32))), .val (.int ((own_at y0 y1 y2 y3 y4 y5 i) &&& (255 : Int32))), .val (.int (3 : Int32)), .val (.int (128 : Int32)), .val (.int (191 : Int32)), .val (.int ((own_at y0 y1 y2 y3 y4 y5 (i + (1 : Int32))) &&& (255 : Int32))), .val (.int (1 : Int32)), .val (.int ((own_at y0 y1 y2 y3 y4 y5 ((i + (1 : Int32)) + (1 : Int32))) &&& (255 : Int32)))] []))
              refine own_go (fun _ hr => XS.iconst X0.here hx rfl (hb hby own_d_prog_68_method_11_code_256) hr) ?_
              show own_Go p e below _ (s₁.setTop (mkF m 257 #[.val (.ref a), .val (.int fr0), .val (.int to0), .val (.int (((i + (1 : Int32)) + (1 : Int32)) + (1 : Int32))), .val (.int ((own_at y0 y1 y2 y3 y4 y5 i) &&& (255 : Int32))), .val (.int (3 : Int32)), .val (.int (128 : Int32)), .val (.int (191 : Int32)), .val (.int ((own_at y0 y1 y2 y3 y4 y5 (i + (1 : Int32))) &&& (255 : Int32))), .val (.int (1 : Int32)), .val (.int ((own_at y0 y1 y2 y3 y4 y5 ((i + (1 : Int32)) + (1 : Int32))) &&& (255 : Int32)))] [(.int (0 : Int32))]))
              have ht : own_turn y0 y1 y2 y3 y4 y5 i to0 = -1 := by unfold own_turn; rw [if_neg c2, if_neg c3, if_pos c6, if_pos c8, if_neg c10, if_neg c11, if_neg c20, if_neg c28, if_neg c29, if_neg c30, if_pos c31]
              obtain ⟨k', rfl⟩ : ∃ k', k = k' + 1 := ⟨k - 1, by have q := c1; rw [Int32.lt_iff_toInt_lt] at q; omega⟩
              exact own_retN X0 hx hlk Bd.returns (t := .boolean) (by simp) (hb hby own_d_prog_68_method_11_code_257) (by decide) (by decide) ⟨(congrArg (fun q => some (Value.int q)) (show (0 : Int32) = own_wf y0 y1 y2 y3 y4 y5 to0 6 fr0 from ((own_wf_bad y0 y1 y2 y3 y4 y5 to0 k' i c1 ht)).symm.trans hR)), N0, e0⟩
            refine own_go (fun _ hr => XS.icmpNo X0.here hx rfl (hb hby own_d_prog_68_method_11_code_245) rfl (flt c31).1 hr) ?_
            show own_Go p e below _ (s₁.setTop (mkF m 248 #[.val (.ref a), .val (.int fr0), .val (.int to0), .val (.int (((i + (1 : Int32)) + (1 : Int32)) + (1 : Int32))), .val (.int ((own_at y0 y1 y2 y3 y4 y5 i) &&& (255 : Int32))), .val (.int (3 : Int32)), .val (.int (128 : Int32)), .val (.int (191 : Int32)), .val (.int ((own_at y0 y1 y2 y3 y4 y5 (i + (1 : Int32))) &&& (255 : Int32))), .val (.int (1 : Int32)), .val (.int ((own_at y0 y1 y2 y3 y4 y5 ((i + (1 : Int32)) + (1 : Int32))) &&& (255 : Int32)))] []))
            refine own_go (fun _ hr => XS.iload X0.here hx rfl (hb hby own_d_prog_68_method_11_code_248) rfl (XS.sipush X0.here hx rfl (hb hby own_d_prog_68_method_11_code_250) hr)) ?_
            show own_Go p e below _ (s₁.setTop (mkF m 253 #[.val (.ref a), .val (.int fr0), .val (.int to0), .val (.int (((i + (1 : Int32)) + (1 : Int32)) + (1 : Int32))), .val (.int ((own_at y0 y1 y2 y3 y4 y5 i) &&& (255 : Int32))), .val (.int (3 : Int32)), .val (.int (128 : Int32)), .val (.int (191 : Int32)), .val (.int ((own_at y0 y1 y2 y3 y4 y5 (i + (1 : Int32))) &&& (255 : Int32))), .val (.int (1 : Int32)), .val (.int ((own_at y0 y1 y2 y3 y4 y5 ((i + (1 : Int32)) + (1 : Int32))) &&& (255 : Int32)))] [(.int (191 : Int32)), (.int ((own_at y0 y1 y2 y3 y4 y5 ((i + (1 : Int32)) + (1 : Int32))) &&& (255 : Int32)))]))
            rcases Classical.em ((191 : Int32) < ((own_at y0 y1 y2 y3 y4 y5 ((i + (1 : Int32)) + (1 : Int32))) &&& (255 : Int32))) with c32 | c32
            · skip
              refine own_go (fun _ hr => XS.icmpNo X0.here hx rfl (hb hby own_d_prog_68_method_11_code_253) rfl (tlt c32).2.2.2 hr) ?_
              show own_Go p e below _ (s₁.setTop (mkF m 256 #[.val (.ref a), .val (.int fr0), .val (.int to0), .val (.int (((i + (1 : Int32)) + (1 : Int32)) + (1 : Int32))), .val (.int ((own_at y0 y1 y2 y3 y4 y5 i) &&& (255 : Int32))), .val (.int (3 : Int32)), .val (.int (128 : Int32)), .val (.int (191 : Int32)), .val (.int ((own_at y0 y1 y2 y3 y4 y5 (i + (1 : Int32))) &&& (255 : Int32))), .val (.int (1 : Int32)), .val (.int ((own_at y0 y1 y2 y3 y4 y5 ((i + (1 : Int32)) + (1 : Int32))) &&& (255 : Int32)))] []))
              refine own_go (fun _ hr => XS.iconst X0.here hx rfl (hb hby own_d_prog_68_method_11_code_256) hr) ?_
              show own_Go p e below _ (s₁.setTop (mkF m 257 #[.val (.ref a), .val (.int fr0), .val (.int to0), .val (.int (((i + (1 : Int32)) + (1 : Int32)) + (1 : Int32))), .val (.int ((own_at y0 y1 y2 y3 y4 y5 i) &&& (255 : Int32))), .val (.int (3 : Int32)), .val (.int (128 : Int32)), .val (.int (191 : Int32)), .val (.int ((own_at y0 y1 y2 y3 y4 y5 (i + (1 : Int32))) &&& (255 : Int32))), .val (.int (1 : Int32)), .val (.int ((own_at y0 y1 y2 y3 y4 y5 ((i + (1 : Int32)) + (1 : Int32))) &&& (255 : Int32)))] [(.int (0 : Int32))]))
              have ht : own_turn y0 y1 y2 y3 y4 y5 i to0 = -1 := by unfold own_turn; rw [if_neg c2, if_neg c3, if_pos c6, if_pos c8, if_neg c10, if_neg c11, if_neg c20, if_neg c28, if_neg c29, if_neg c30, if_neg c31, if_pos c32]
              obtain ⟨k', rfl⟩ : ∃ k', k = k' + 1 := ⟨k - 1, by have q := c1; rw [Int32.lt_iff_toInt_lt] at q; omega⟩
              exact own_retN X0 hx hlk Bd.returns (t := .boolean) (by simp) (hb hby own_d_prog_68_method_11_code_257) (by decide) (by decide) ⟨(congrArg (fun q => some (Value.int q)) (show (0 : Int32) = own_wf y0 y1 y2 y3 y4 y5 to0 6 fr0 from ((own_wf_bad y0 y1 y2 y3 y4 y5 to0 k' i c1 ht)).symm.trans hR)), N0, e0⟩
            refine own_go (fun _ hr => XS.icmpYes X0.here hx rfl (pc0 := 253) (pc' := 258) rfl (hb hby own_d_prog_68_method_11_code_253) rfl (flt c32).2.2.2 (by decide) (by decide) hr) ?_
            show own_Go p e below _ (s₁.setTop (mkF m 258 #[.val (.ref a), .val (.int fr0), .val (.int to0), .val (.int (((i + (1 : Int32)) + (1 : Int32)) + (1 : Int32))), .val (.int ((own_at y0 y1 y2 y3 y4 y5 i) &&& (255 : Int32))), .val (.int (3 : Int32)), .val (.int (128 : Int32)), .val (.int (191 : Int32)), .val (.int ((own_at y0 y1 y2 y3 y4 y5 (i + (1 : Int32))) &&& (255 : Int32))), .val (.int (1 : Int32)), .val (.int ((own_at y0 y1 y2 y3 y4 y5 ((i + (1 : Int32)) + (1 : Int32))) &&& (255 : Int32)))] []))
            refine own_go (fun _ hr => XS.iinc X0.here hx rfl (hb hby own_d_prog_68_method_11_code_258) rfl (l' := #[.val (.ref a), .val (.int fr0), .val (.int to0), .val (.int (((i + (1 : Int32)) + (1 : Int32)) + (1 : Int32))), .val (.int ((own_at y0 y1 y2 y3 y4 y5 i) &&& (255 : Int32))), .val (.int (3 : Int32)), .val (.int (128 : Int32)), .val (.int (191 : Int32)), .val (.int ((own_at y0 y1 y2 y3 y4 y5 (i + (1 : Int32))) &&& (255 : Int32))), .val (.int (2 : Int32)), .val (.int ((own_at y0 y1 y2 y3 y4 y5 ((i + (1 : Int32)) + (1 : Int32))) &&& (255 : Int32)))]) rfl (XS.goto X0.here hx rfl (pc0 := 261) (pc' := 221) rfl (hb hby own_d_prog_68_method_11_code_261) (by decide) (by decide) (XS.iload X0.here hx rfl (hb hby own_d_prog_68_method_11_code_221) rfl (XS.iload X0.here hx rfl (hb hby own_d_prog_68_method_11_code_223) rfl (XS.icmpNo X0.here hx rfl (hb hby own_d_prog_68_method_11_code_225) rfl (tlt (by decide)).2.1 (XS.aloadN X0.here hx rfl (hb hby own_d_prog_68_method_11_code_228) rfl rfl (XS.iloadN X0.here hx rfl (hb hby own_d_prog_68_method_11_code_229) rfl (XS.iinc X0.here hx rfl (hb hby own_d_prog_68_method_11_code_230) rfl (l' := #[.val (.ref a), .val (.int fr0), .val (.int to0), .val (.int ((((i + (1 : Int32)) + (1 : Int32)) + (1 : Int32)) + (1 : Int32))), .val (.int ((own_at y0 y1 y2 y3 y4 y5 i) &&& (255 : Int32))), .val (.int (3 : Int32)), .val (.int (128 : Int32)), .val (.int (191 : Int32)), .val (.int ((own_at y0 y1 y2 y3 y4 y5 (i + (1 : Int32))) &&& (255 : Int32))), .val (.int (2 : Int32)), .val (.int ((own_at y0 y1 y2 y3 y4 y5 ((i + (1 : Int32)) + (1 : Int32))) &&& (255 : Int32)))]) rfl (own_baload X0 hx hZ e0 V (((i + (1 : Int32)) + (1 : Int32)) + (1 : Int32)) (.int (own_at y0 y1 y2 y3 y4 y5 (((i + (1 : Int32)) + (1 : Int32)) + (1 : Int32)))) (own_a3 i ▸ own_tin (k := 3) h1 c1 hto c28 (by decide)) (own_get y0 y1 y2 y3 y4 y5 _ (own_a3 i ▸ own_tin (k := 3) h1 c1 hto c28 (by decide))) rfl rfl (hb hby own_d_prog_68_method_11_code_233) (XS.sipush X0.here hx rfl (hb hby own_d_prog_68_method_11_code_234) hr)))))))))) ?_
            show own_Go p e below _ (s₁.setTop (mkF m 237 #[.val (.ref a), .val (.int fr0), .val (.int to0), .val (.int ((((i + (1 : Int32)) + (1 : Int32)) + (1 : Int32)) + (1 : Int32))), .val (.int ((own_at y0 y1 y2 y3 y4 y5 i) &&& (255 : Int32))), .val (.int (3 : Int32)), .val (.int (128 : Int32)), .val (.int (191 : Int32)), .val (.int ((own_at y0 y1 y2 y3 y4 y5 (i + (1 : Int32))) &&& (255 : Int32))), .val (.int (2 : Int32)), .val (.int ((own_at y0 y1 y2 y3 y4 y5 ((i + (1 : Int32)) + (1 : Int32))) &&& (255 : Int32)))] [(.int (255 : Int32)), (.int (own_at y0 y1 y2 y3 y4 y5 (((i + (1 : Int32)) + (1 : Int32)) + (1 : Int32))))]))
            refine own_go (fun _ hr => XS.iand X0.here hx rfl (hb hby own_d_prog_68_method_11_code_237) rfl (XS.istore X0.here hx rfl (hb hby own_d_prog_68_method_11_code_238) rfl (l' := #[.val (.ref a), .val (.int fr0), .val (.int to0), .val (.int ((((i + (1 : Int32)) + (1 : Int32)) + (1 : Int32)) + (1 : Int32))), .val (.int ((own_at y0 y1 y2 y3 y4 y5 i) &&& (255 : Int32))), .val (.int (3 : Int32)), .val (.int (128 : Int32)), .val (.int (191 : Int32)), .val (.int ((own_at y0 y1 y2 y3 y4 y5 (i + (1 : Int32))) &&& (255 : Int32))), .val (.int (2 : Int32)), .val (.int ((own_at y0 y1 y2 y3 y4 y5 (((i + (1 : Int32)) + (1 : Int32)) + (1 : Int32))) &&& (255 : Int32)))]) rfl (XS.iload X0.here hx rfl (hb hby own_d_prog_68_method_11_code_240) rfl (XS.sipush X0.here hx rfl (hb hby own_d_prog_68_method_11_code_242) hr)))) ?_
            show own_Go p e below _ (s₁.setTop (mkF m 245 #[.val (.ref a), .val (.int fr0), .val (.int to0), .val (.int ((((i + (1 : Int32)) + (1 : Int32)) + (1 : Int32)) + (1 : Int32))), .val (.int ((own_at y0 y1 y2 y3 y4 y5 i) &&& (255 : Int32))), .val (.int (3 : Int32)), .val (.int (128 : Int32)), .val (.int (191 : Int32)), .val (.int ((own_at y0 y1 y2 y3 y4 y5 (i + (1 : Int32))) &&& (255 : Int32))), .val (.int (2 : Int32)), .val (.int ((own_at y0 y1 y2 y3 y4 y5 (((i + (1 : Int32)) + (1 : Int32)) + (1 : Int32))) &&& (255 : Int32)))] [(.int (128 : Int32)), (.int ((own_at y0 y1 y2 y3 y4 y5 (((i + (1 : Int32)) + (1 : Int32)) + (1 : Int32))) &&& (255 : Int32)))]))
            rcases Classical.em (((own_at y0 y1 y2 y3 y4 y5 (((i + (1 : Int32)) + (1 : Int32)) + (1 : Int32))) &&& (255 : Int32)) < (128 : Int32)) with c33 | c33
            · skip
              refine own_go (fun _ hr => XS.icmpYes X0.here hx rfl (pc0 := 245) (pc' := 256) rfl (hb hby own_d_prog_68_method_11_code_245) rfl (tlt c33).1 (by decide) (by decide) hr) ?_
              show own_Go p e below _ (s₁.setTop (mkF m 256 #[.val (.ref a), .val (.int fr0), .val (.int to0), .val (.int ((((i + (1 : Int32)) + (1 : Int32)) + (1 : Int32)) + (1 : Int32))), .val (.int ((own_at y0 y1 y2 y3 y4 y5 i) &&& (255 : Int32))), .val (.int (3 : Int32)), .val (.int (128 : Int32)), .val (.int (191 : Int32)), .val (.int ((own_at y0 y1 y2 y3 y4 y5 (i + (1 : Int32))) &&& (255 : Int32))), .val (.int (2 : Int32)), .val (.int ((own_at y0 y1 y2 y3 y4 y5 (((i + (1 : Int32)) + (1 : Int32)) + (1 : Int32))) &&& (255 : Int32)))] []))
              refine own_go (fun _ hr => XS.iconst X0.here hx rfl (hb hby own_d_prog_68_method_11_code_256) hr) ?_
              show own_Go p e below _ (s₁.setTop (mkF m 257 #[.val (.ref a), .val (.int fr0), .val (.int to0), .val (.int ((((i + (1 : Int32)) + (1 : Int32)) + (1 : Int32)) + (1 : Int32))), .val (.int ((own_at y0 y1 y2 y3 y4 y5 i) &&& (255 : Int32))), .val (.int (3 : Int32)), .val (.int (128 : Int32)), .val (.int (191 : Int32)), .val (.int ((own_at y0 y1 y2 y3 y4 y5 (i + (1 : Int32))) &&& (255 : Int32))), .val (.int (2 : Int32)), .val (.int ((own_at y0 y1 y2 y3 y4 y5 (((i + (1 : Int32)) + (1 : Int32)) + (1 : Int32))) &&& (255 : Int32)))] [(.int (0 : Int32))]))
              have ht : own_turn y0 y1 y2 y3 y4 y5 i to0 = -1 := by unfold own_turn; rw [if_neg c2, if_neg c3, if_pos c6, if_pos c8, if_neg c10, if_neg c11, if_neg c20, if_neg c28, if_neg c29, if_neg c30, if_neg c31, if_neg c32, if_pos c33]
              obtain ⟨k', rfl⟩ : ∃ k', k = k' + 1 := ⟨k - 1, by have q := c1; rw [Int32.lt_iff_toInt_lt] at q; omega⟩
              exact own_retN X0 hx hlk Bd.returns (t := .boolean) (by simp) (hb hby own_d_prog_68_method_11_code_257) (by decide) (by decide) ⟨(congrArg (fun q => some (Value.int q)) (show (0 : Int32) = own_wf y0 y1 y2 y3 y4 y5 to0 6 fr0 from ((own_wf_bad y0 y1 y2 y3 y4 y5 to0 k' i c1 ht)).symm.trans hR)), N0, e0⟩
            refine own_go (fun _ hr => XS.icmpNo X0.here hx rfl (hb hby own_d_prog_68_method_11_code_245) rfl (flt c33).1 hr) ?_
            show own_Go p e below _ (s₁.setTop (mkF m 248 #[.val (.ref a), .val (.int fr0), .val (.int to0), .val (.int ((((i + (1 : Int32)) + (1 : Int32)) + (1 : Int32)) + (1 : Int32))), .val (.int ((own_at y0 y1 y2 y3 y4 y5 i) &&& (255 : Int32))), .val (.int (3 : Int32)), .val (.int (128 : Int32)), .val (.int (191 : Int32)), .val (.int ((own_at y0 y1 y2 y3 y4 y5 (i + (1 : Int32))) &&& (255 : Int32))), .val (.int (2 : Int32)), .val (.int ((own_at y0 y1 y2 y3 y4 y5 (((i + (1 : Int32)) + (1 : Int32)) + (1 : Int32))) &&& (255 : Int32)))] []))
            refine own_go (fun _ hr => XS.iload X0.here hx rfl (hb hby own_d_prog_68_method_11_code_248) rfl (XS.sipush X0.here hx rfl (hb hby own_d_prog_68_method_11_code_250) hr)) ?_
            show own_Go p e below _ (s₁.setTop (mkF m 253 #[.val (.ref a), .val (.int fr0), .val (.int to0), .val (.int ((((i + (1 : Int32)) + (1 : Int32)) + (1 : Int32)) + (1 : Int32))), .val (.int ((own_at y0 y1 y2 y3 y4 y5 i) &&& (255 : Int32))), .val (.int (3 : Int32)), .val (.int (128 : Int32)), .val (.int (191 : Int32)), .val (.int ((own_at y0 y1 y2 y3 y4 y5 (i + (1 : Int32))) &&& (255 : Int32))), .val (.int (2 : Int32)), .val (.int ((own_at y0 y1 y2 y3 y4 y5 (((i + (1 : Int32)) + (1 : Int32)) + (1 : Int32))) &&& (255 : Int32)))] [(.int (191 : Int32)), (.int ((own_at y0 y1 y2 y3 y4 y5 (((i + (1 : Int32)) + (1 : Int32)) + (1 : Int32))) &&& (255 : Int32)))]))
            rcases Classical.em ((191 : Int32) < ((own_at y0 y1 y2 y3 y4 y5 (((i + (1 : Int32)) + (1 : Int32)) + (1 : Int32))) &&& (255 : Int32))) with c34 | c34
            · skip
              refine own_go (fun _ hr => XS.icmpNo X0.here hx rfl (hb hby own_d_prog_68_method_11_code_253) rfl (tlt c34).2.2.2 hr) ?_
              show own_Go p e below _ (s₁.setTop (mkF m 256 #[.val (.ref a), .val (.int fr0), .val (.int to0), .val (.int ((((i + (1 : Int32)) + (1 : Int32)) + (1 : Int32)) + (1 : Int32))), .val (.int ((own_at y0 y1 y2 y3 y4 y5 i) &&& (255 : Int32))), .val (.int (3 : Int32)), .val (.int (128 : Int32)), .val (.int (191 : Int32)), .val (.int ((own_at y0 y1 y2 y3 y4 y5 (i + (1 : Int32))) &&& (255 : Int32))), .val (.int (2 : Int32)), .val (.int ((own_at y0 y1 y2 y3 y4 y5 (((i + (1 : Int32)) + (1 : Int32)) + (1 : Int32))) &&& (255 : Int32)))] []))
              refine own_go (fun _ hr => XS.iconst X0.here hx rfl (hb hby own_d_prog_68_method_11_code_256) hr) ?_
              show own_Go p e below _ (s₁.setTop (mkF m 257 #[.val (.ref a), .val (.int fr0), .val (.int to0), .val (.int ((((i + (1 : Int32)) + (1 : Int32)) + (1 : Int32)) + (1 : Int32))), .val (.int ((own_at y0 y1 y2 y3 y4 y5 i) &&& (255 : Int32))), .val (.int (3 : Int32)), .val (.int (128 : Int32)), .val (.int (191 : Int32)), .val (.int ((own_at y0 y1 y2 y3 y4 y5 (i + (1 : Int32))) &&& (255 : Int32))), .val (.int (2 : Int32)), .val (.int ((own_at y0 y1 y2 y3 y4 y5 (((i + (1 : Int32)) + (1 : Int32)) + (1 : Int32))) &&& (255 : Int32)))] [(.int (0 : Int32))]))
              have ht : own_turn y0 y1 y2 y3 y4 y5 i to0 = -1 := by unfold own_turn; rw [if_neg c2, if_neg c3, if_pos c6, if_pos c8, if_neg c10, if_neg c11, if_neg c20, if_neg c28, if_neg c29, if_neg c30, if_neg c31, if_neg c32, if_neg c33, if_pos c34]
              obtain ⟨k', rfl⟩ : ∃ k', k = k' + 1 := ⟨k - 1, by have q := c1; rw [Int32.lt_iff_toInt_lt] at q; omega⟩
              exact own_retN X0 hx hlk Bd.returns (t := .boolean) (by simp) (hb hby own_d_prog_68_method_11_code_257) (by decide) (by decide) ⟨(congrArg (fun q => some (Value.int q)) (show (0 : Int32) = own_wf y0 y1 y2 y3 y4 y5 to0 6 fr0 from ((own_wf_bad y0 y1 y2 y3 y4 y5 to0 k' i c1 ht)).symm.trans hR)), N0, e0⟩
            refine own_go (fun _ hr => XS.icmpYes X0.here hx rfl (pc0 := 253) (pc' := 258) rfl (hb hby own_d_prog_68_method_11_code_253) rfl (flt c34).2.2.2 (by decide) (by decide) hr) ?_
            show own_Go p e below _ (s₁.setTop (mkF m 258 #[.val (.ref a), .val (.int fr0), .val (.int to0), .val (.int ((((i + (1 : Int32)) + (1 : Int32)) + (1 : Int32)) + (1 : Int32))), .val (.int ((own_at y0 y1 y2 y3 y4 y5 i) &&& (255 : Int32))), .val (.int (3 : Int32)), .val (.int (128 : Int32)), .val (.int (191 : Int32)), .val (.int ((own_at y0 y1 y2 y3 y4 y5 (i + (1 : Int32))) &&& (255 : Int32))), .val (.int (2 : Int32)), .val (.int ((own_at y0 y1 y2 y3 y4 y5 (((i + (1 : Int32)) + (1 : Int32)) + (1 : Int32))) &&& (255 : Int32)))] []))
            refine own_go (fun _ hr => XS.iinc X0.here hx rfl (hb hby own_d_prog_68_method_11_code_258) rfl (l' := #[.val (.ref a), .val (.int fr0), .val (.int to0), .val (.int ((((i + (1 : Int32)) + (1 : Int32)) + (1 : Int32)) + (1 : Int32))), .val (.int ((own_at y0 y1 y2 y3 y4 y5 i) &&& (255 : Int32))), .val (.int (3 : Int32)), .val (.int (128 : Int32)), .val (.int (191 : Int32)), .val (.int ((own_at y0 y1 y2 y3 y4 y5 (i + (1 : Int32))) &&& (255 : Int32))), .val (.int (3 : Int32)), .val (.int ((own_at y0 y1 y2 y3 y4 y5 (((i + (1 : Int32)) + (1 : Int32)) + (1 : Int32))) &&& (255 : Int32)))]) rfl (XS.goto X0.here hx rfl (pc0 := 261) (pc' := 221) rfl (hb hby own_d_prog_68_method_11_code_261) (by decide) (by decide) (XS.iload X0.here hx rfl (hb hby own_d_prog_68_method_11_code_221) rfl (XS.iload X0.here hx rfl (hb hby own_d_prog_68_method_11_code_223) rfl (XS.icmpYes X0.here hx rfl (pc0 := 225) (pc' := 264) rfl (hb hby own_d_prog_68_method_11_code_225) rfl (flt (by decide)).2.1 (by decide) (by decide) (XS.goto X0.here hx rfl (pc0 := 264) (pc' := 2) rfl (hb hby own_d_prog_68_method_11_code_264) (by decide) (by decide) hr)))))) ?_
            show own_Go p e below _ (s₁.setTop (mkF m 2 #[.val (.ref a), .val (.int fr0), .val (.int to0), .val (.int ((((i + (1 : Int32)) + (1 : Int32)) + (1 : Int32)) + (1 : Int32))), .val (.int ((own_at y0 y1 y2 y3 y4 y5 i) &&& (255 : Int32))), .val (.int (3 : Int32)), .val (.int (128 : Int32)), .val (.int (191 : Int32)), .val (.int ((own_at y0 y1 y2 y3 y4 y5 (i + (1 : Int32))) &&& (255 : Int32))), .val (.int (3 : Int32)), .val (.int ((own_at y0 y1 y2 y3 y4 y5 (((i + (1 : Int32)) + (1 : Int32)) + (1 : Int32))) &&& (255 : Int32)))] []))
            have ht : own_turn y0 y1 y2 y3 y4 y5 i to0 = ((((i + (1 : Int32)) + (1 : Int32)) + (1 : Int32)) + (1 : Int32)) := by unfold own_turn; rw [if_neg c2, if_neg c3, if_pos c6, if_pos c8, if_neg c10, if_neg c11, if_neg c20, if_neg c28, if_neg c29, if_neg c30, if_neg c31, if_neg c32, if_neg c33, if_neg c34]
            obtain ⟨k', rfl⟩ : ∃ k', k = k' + 1 := ⟨k - 1, by have q := c1; rw [Int32.lt_iff_toInt_lt] at q; omega⟩
            have hb : i.toInt < (((((i + (1 : Int32)) + (1 : Int32)) + (1 : Int32)) + (1 : Int32))).toInt ∧ (((((i + (1 : Int32)) + (1 : Int32)) + (1 : Int32)) + (1 : Int32))).toInt ≤ to0.toInt ∧ ¬ ((((i + (1 : Int32)) + (1 : Int32)) + (1 : Int32)) + (1 : Int32)) = -1 := by
              have q0 := rng32 i
              have q1 := c_iadd i (1 : Int32)
              have r1 := rng32 (i + (1 : Int32))
              have q2 := c_iadd (i + (1 : Int32)) (1 : Int32)
              have r2 := rng32 ((i + (1 : Int32)) + (1 : Int32))
              have q3 := c_iadd ((i + (1 : Int32)) + (1 : Int32)) (1 : Int32)
              have r3 := rng32 (((i + (1 : Int32)) + (1 : Int32)) + (1 : Int32))
              have q4 := c_iadd (((i + (1 : Int32)) + (1 : Int32)) + (1 : Int32)) (1 : Int32)
              have r4 := rng32 ((((i + (1 : Int32)) + (1 : Int32)) + (1 : Int32)) + (1 : Int32))
              have q5 := rng32 to0
              have q6 := c_isub to0 (i + (1 : Int32))
              have r6 := rng32 (to0 - (i + (1 : Int32)))
              have p0 := c1
              have p1 := c28
              simp only [true_implies, Int32.lt_iff_toInt_lt, ← Int32.toInt_inj, Int32.reduceToInt, Int64.lt_iff_toInt_lt, ← Int64.toInt_inj, Int64.reduceToInt] at q0 q1 q2 q3 q4 q5 q6 p0 p1 ⊢
              omega
            exact ih k' (Nat.lt_succ_self _) ((((i + (1 : Int32)) + (1 : Int32)) + (1 : Int32)) + (1 : Int32)) _ _ _ _ _ _ _ (One.val rfl) (One.val rfl) (One.val rfl) (One.val rfl) (One.val rfl) (One.val rfl) (One.val rfl) (by omega) hb.2.1 (by omega) ((own_wf_on y0 y1 y2 y3 y4 y5 to0 k' i _ c1 ht hb.2.2).symm.trans hR)
          refine own_go (fun _ hr => XS.icmpNo X0.here hx rfl (hb hby own_d_prog_68_method_11_code_75) rfl (flt c8).2.2.1 hr) ?_
          show own_Go p e below _ (s₁.setTop (mkF m 78 #[.val (.ref a), .val (.int fr0), .val (.int to0), .val (.int (i + (1 : Int32))), .val (.int ((own_at y0 y1 y2 y3 y4 y5 i) &&& (255 : Int32))), s5, .val (.int (128 : Int32)), .val (.int (191 : Int32)), s8, s9, s10] []))
          refine own_go (fun _ hr => XS.iconst X0.here hx rfl (hb hby own_d_prog_68_method_11_code_78) (XS.istoreS X0.here hx rfl (hb hby own_d_prog_68_method_11_code_79) rfl rfl o5 (XS.iload X0.here hx rfl (hb hby own_d_prog_68_method_11_code_81) rfl (XS.sipush X0.here hx rfl (hb hby own_d_prog_68_method_11_code_83) hr)))) ?_
          show own_Go p e below _ (s₁.setTop (mkF m 86 #[.val (.ref a), .val (.int fr0), .val (.int to0), .val (.int (i + (1 : Int32))), .val (.int ((own_at y0 y1 y2 y3 y4 y5 i) &&& (255 : Int32))), .val (.int (2 : Int32)), .val (.int (128 : Int32)), .val (.int (191 : Int32)), s8, s9, s10] [(.int (224 : Int32)), (.int ((own_at y0 y1 y2 y3 y4 y5 i) &&& (255 : Int32)))]))
          rcases Classical.em (((own_at y0 y1 y2 y3 y4 y5 i) &&& (255 : Int32)) = (224 : Int32)) with c35 | c35
          · skip
            refine own_go (fun _ hr => XS.icmpNo X0.here hx rfl (hb hby own_d_prog_68_method_11_code_86) rfl (teq c35).2 hr) ?_
            show own_Go p e below _ (s₁.setTop (mkF m 89 #[.val (.ref a), .val (.int fr0), .val (.int to0), .val (.int (i + (1 : Int32))), .val (.int ((own_at y0 y1 y2 y3 y4 y5 i) &&& (255 : Int32))), .val (.int (2 : Int32)), .val (.int (128 : Int32)), .val (.int (191 : Int32)), s8, s9, s10] []))
            refine own_go (fun _ hr => XS.sipush X0.here hx rfl (hb hby own_d_prog_68_method_11_code_89) (XS.goto X0.here hx rfl (pc0 := 92) (pc' := 97) rfl (hb hby own_d_prog_68_method_11_code_92) (by decide) (by decide) (XS.istore X0.here hx rfl (hb hby own_d_prog_68_method_11_code_97) rfl (l' := #[.val (.ref a), .val (.int fr0), .val (.int to0), .val (.int (i + (1 : Int32))), .val (.int ((own_at y0 y1 y2 y3 y4 y5 i) &&& (255 : Int32))), .val (.int (2 : Int32)), .val (.int (160 : Int32)), .val (.int (191 : Int32)), s8, s9, s10]) rfl (XS.iload X0.here hx rfl (hb hby own_d_prog_68_method_11_code_99) rfl (XS.sipush X0.here hx rfl (hb hby own_d_prog_68_method_11_code_101) hr))))) ?_
            show own_Go p e below _ (s₁.setTop (mkF m 104 #[.val (.ref a), .val (.int fr0), .val (.int to0), .val (.int (i + (1 : Int32))), .val (.int ((own_at y0 y1 y2 y3 y4 y5 i) &&& (255 : Int32))), .val (.int (2 : Int32)), .val (.int (160 : Int32)), .val (.int (191 : Int32)), s8, s9, s10] [(.int (237 : Int32)), (.int ((own_at y0 y1 y2 y3 y4 y5 i) &&& (255 : Int32)))]))
            have c36 : ¬ (((own_at y0 y1 y2 y3 y4 y5 i) &&& (255 : Int32)) = (237 : Int32)) := by
              have q0 := rng32 i
              have q1 := rng32 to0
              have q2 := rng32 y0
              have q3 := rng32 y1
              have q4 := rng32 y2
              have q5 := rng32 y3
              have q6 := rng32 y4
              have q7 := rng32 y5
              have q8 := rng32 (own_at y0 y1 y2 y3 y4 y5 i)
              have q9 := c_mask (own_at y0 y1 y2 y3 y4 y5 i) (255 : Int32) 8 (by decide) (by decide)
              have p0 := c1
              have p1 := c2
              have p2 := c3
              have p3 := c6
              have p4 := c7
              have p5 := c8
              have p6 := c35
              simp only [true_implies, Int32.lt_iff_toInt_lt, ← Int32.toInt_inj, Int32.reduceToInt, Int64.lt_iff_toInt_lt, ← Int64.toInt_inj, Int64.reduceToInt] at q0 q1 q2 q3 q4 q5 q6 q7 q8 q9 p0 p1 p2 p3 p4 p5 p6 ⊢
              omega
            refine own_go (fun _ hr => XS.icmpYes X0.here hx rfl (pc0 := 104) (pc' := 113) rfl (hb hby own_d_prog_68_method_11_code_104) rfl (feq c36).2 (by decide) (by decide) hr) ?_
            show own_Go p e below _ (s₁.setTop (mkF m 113 #[.val (.ref a), .val (.int fr0), .val (.int to0), .val (.int (i + (1 : Int32))), .val (.int ((own_at y0 y1 y2 y3 y4 y5 i) &&& (255 : Int32))), .val (.int (2 : Int32)), .val (.int (160 : Int32)), .val (.int (191 : Int32)), s8, s9, s10] []))
            refine own_go (fun _ hr => XS.iload X0.here hx rfl (hb hby own_d_prog_68_method_11_code_113) rfl (XS.istore X0.here hx rfl (hb hby own_d_prog_68_method_11_code_115) rfl (l' := #[.val (.ref a), .val (.int fr0), .val (.int to0), .val (.int (i + (1 : Int32))), .val (.int ((own_at y0 y1 y2 y3 y4 y5 i) &&& (255 : Int32))), .val (.int (2 : Int32)), .val (.int (160 : Int32)), .val (.int (191 : Int32)), s8, s9, s10]) rfl (XS.goto X0.here hx rfl (pc0 := 117) (pc' := 180) rfl (hb hby own_d_prog_68_method_11_code_117) (by decide) (by decide) (XS.iloadN X0.here hx rfl (hb hby own_d_prog_68_method_11_code_180) rfl (XS.iloadN X0.here hx rfl (hb hby own_d_prog_68_method_11_code_181) rfl (XS.isub X0.here hx rfl (hb hby own_d_prog_68_method_11_code_182) rfl (XS.iload X0.here hx rfl (hb hby own_d_prog_68_method_11_code_183) rfl hr))))))) ?_
            show own_Go p e below _ (s₁.setTop (mkF m 185 #[.val (.ref a), .val (.int fr0), .val (.int to0), .val (.int (i + (1 : Int32))), .val (.int ((own_at y0 y1 y2 y3 y4 y5 i) &&& (255 : Int32))), .val (.int (2 : Int32)), .val (.int (160 : Int32)), .val (.int (191 : Int32)), s8, s9, s10] [(.int (2 : Int32)), (.int (to0 - (i + (1 : Int32))))]))
            rcases Classical.em ((to0 - (i + (1 : Int32))) < (2 : Int32)) with c37 | c37
            · skip
              refine own_go (fun _ hr => XS.icmpNo X0.here hx rfl (hb hby own_d_prog_68_method_11_code_185) rfl (tlt c37).2.1 hr) ?_
              show own_Go p e below _ (s₁.setTop (mkF m 188 #[.val (.ref a), .val (.int fr0), .val (.int to0), .val (.int (i + (1 : Int32))), .val (.int ((own_at y0 y1 y2 y3 y4 y5 i) &&& (255 : Int32))), .val (.int (2 : Int32)), .val (.int (160 : Int32)), .val (.int (191 : Int32)), s8, s9, s10] []))
              refine own_go (fun _ hr => XS.iconst X0.here hx rfl (hb hby own_d_prog_68_method_11_code_188) hr) ?_
              show own_Go p e below _ (s₁.setTop (mkF m 189 #[.val (.ref a), .val (.int fr0), .val (.int to0), .val (.int (i + (1 : Int32))), .val (.int ((own_at y0 y1 y2 y3 y4 y5 i) &&& (255 : Int32))), .val (.int (2 : Int32)), .val (.int (160 : Int32)), .val (.int (191 : Int32)), s8, s9, s10] [(.int (0 : Int32))]))
              have ht : own_turn y0 y1 y2 y3 y4 y5 i to0 = -1 := by unfold own_turn; rw [if_neg c2, if_neg c3, if_pos c6, if_neg c8, if_pos c35, if_pos c37]
              obtain ⟨k', rfl⟩ : ∃ k', k = k' + 1 := ⟨k - 1, by have q := c1; rw [Int32.lt_iff_toInt_lt] at q; omega⟩
              exact own_retN X0 hx hlk Bd.returns (t := .boolean) (by simp) (hb hby own_d_prog_68_method_11_code_189) (by decide) (by decide) ⟨(congrArg (fun q => some (Value.int q)) (show (0 : Int32) = own_wf y0 y1 y2 y3 y4 y5 to0 6 fr0 from ((own_wf_bad y0 y1 y2 y3 y4 y5 to0 k' i c1 ht)).symm.trans hR)), N0, e0⟩
            refine own_go (fun _ hr => XS.icmpYes X0.here hx rfl (pc0 := 185) (pc' := 190) rfl (hb hby own_d_prog_68_method_11_code_185) rfl (flt c37).2.1 (by decide) (by decide) hr) ?_
            show own_Go p e below _ (s₁.setTop (mkF m 190 #[.val (.ref a), .val (.int fr0), .val (.int to0), .val (.int (i + (1 : Int32))), .val (.int ((own_at y0 y1 y2 y3 y4 y5 i) &&& (255 : Int32))), .val (.int (2 : Int32)), .val (.int (160 : Int32)), .val (.int (191 : Int32)), s8, s9, s10] []))
            refine own_go (fun _ hr => XS.aloadN X0.here hx rfl (hb hby own_d_prog_68_method_11_code_190) rfl rfl (XS.iloadN X0.here hx rfl (hb hby own_d_prog_68_method_11_code_191) rfl (XS.iinc X0.here hx rfl (hb hby own_d_prog_68_method_11_code_192) rfl (l' := #[.val (.ref a), .val (.int fr0), .val (.int to0), .val (.int ((i + (1 : Int32)) + (1 : Int32))), .val (.int ((own_at y0 y1 y2 y3 y4 y5 i) &&& (255 : Int32))), .val (.int (2 : Int32)), .val (.int (160 : Int32)), .val (.int (191 : Int32)), s8, s9, s10]) rfl (own_baload X0 hx hZ e0 V (i + (1 : Int32)) (.int (own_at y0 y1 y2 y3 y4 y5 (i + (1 : Int32)))) (own_tin h1 c1 hto c37 (by decide)) (own_get y0 y1 y2 y3 y4 y5 _ (own_tin h1 c1 hto c37 (by decide))) rfl rfl (hb hby own_d_prog_68_method_11_code_195) (XS.sipush X0.here hx rfl (hb hby own_d_prog_68_method_11_code_196) (XS.iand X0.here hx rfl (hb hby own_d_prog_68_method_11_code_199) rfl (XS.istoreS X0.here hx rfl (hb hby own_d_prog_68_method_11_code_200) rfl rfl o8 (XS.iload X0.here hx rfl (hb hby own_d_prog_68_method_11_code_202) rfl (XS.iload X0.here hx rfl (hb hby own_d_prog_68_method_11_code_204) rfl hr))))))))) ?_
            show own_Go p e below _ (s₁.setTop (mkF m 206 #[.val (.ref a), .val (.int fr0), .val (.int to0), .val (.int ((i + (1 : Int32)) + (1 : Int32))), .val (.int ((own_at y0 y1 y2 y3 y4 y5 i) &&& (255 : Int32))), .val (.int (2 : Int32)), .val (.int (160 : Int32)), .val (.int (191 : Int32)), .val (.int ((own_at y0 y1 y2 y3 y4 y5 (i + (1 : Int32))) &&& (255 : Int32))), s9, s10] [(.int (160 : Int32)), (.int ((own_at y0 y1 y2 y3 y4 y5 (i + (1 : Int32))) &&& (255 : Int32)))]))
            rcases Classical.em (((own_at y0 y1 y2 y3 y4 y5 (i + (1 : Int32))) &&& (255 : Int32)) < (160 : Int32)) with c38 | c38
            · skip
              refine own_go (fun _ hr => XS.icmpYes X0.here hx rfl (pc0 := 206) (pc' := 216) rfl (hb hby own_d_prog_68_method_11_code_206) rfl (tlt c38).1 (by decide) (by decide) hr) ?_
              show own_Go p e below _ (s₁.setTop (mkF m 216 #[.val (.ref a), .val (.int fr0), .val (.int to0), .val (.int ((i + (1 : Int32)) + (1 : Int32))), .val (.int ((own_at y0 y1 y2 y3 y4 y5 i) &&& (255 : Int32))), .val (.int (2 : Int32)), .val (.int (160 : Int32)), .val (.int (191 : Int32)), .val (.int ((own_at y0 y1 y2 y3 y4 y5 (i + (1 : Int32))) &&& (255 : Int32))), s9, s10] []))
              refine own_go (fun _ hr => XS.iconst X0.here hx rfl (hb hby own_d_prog_68_method_11_code_216) hr) ?_
              show own_Go p e below _ (s₁.setTop (mkF m 217 #[.val (.ref a), .val (.int fr0), .val (.int to0), .val (.int ((i + (1 : Int32)) + (1 : Int32))), .val (.int ((own_at y0 y1 y2 y3 y4 y5 i) &&& (255 : Int32))), .val (.int (2 : Int32)), .val (.int (160 : Int32)), .val (.int (191 : Int32)), .val (.int ((own_at y0 y1 y2 y3 y4 y5 (i + (1 : Int32))) &&& (255 : Int32))), s9, s10] [(.int (0 : Int32))]))
              have ht : own_turn y0 y1 y2 y3 y4 y5 i to0 = -1 := by unfold own_turn; rw [if_neg c2, if_neg c3, if_pos c6, if_neg c8, if_pos c35, if_neg c37, if_pos c38]
              obtain ⟨k', rfl⟩ : ∃ k', k = k' + 1 := ⟨k - 1, by have q := c1; rw [Int32.lt_iff_toInt_lt] at q; omega⟩
              exact own_retN X0 hx hlk Bd.returns (t := .boolean) (by simp) (hb hby own_d_prog_68_method_11_code_217) (by decide) (by decide) ⟨(congrArg (fun q => some (Value.int q)) (show (0 : Int32) = own_wf y0 y1 y2 y3 y4 y5 to0 6 fr0 from ((own_wf_bad y0 y1 y2 y3 y4 y5 to0 k' i c1 ht)).symm.trans hR)), N0, e0⟩
            refine own_go (fun _ hr => XS.icmpNo X0.here hx rfl (hb hby own_d_prog_68_method_11_code_206) rfl (flt c38).1 hr) ?_
            show own_Go p e below _ (s₁.setTop (mkF m 209 #[.val (.ref a), .val (.int fr0), .val (.int to0), .val (.int ((i + (1 : Int32)) + (1 : Int32))), .val (.int ((own_at y0 y1 y2 y3 y4 y5 i) &&& (255 : Int32))), .val (.int (2 : Int32)), .val (.int (160 : Int32)), .val (.int (191 : Int32)), .val (.int ((own_at y0 y1 y2 y3 y4 y5 (i + (1 : Int32))) &&& (255 : Int32))), s9, s10] []))
            refine own_go (fun _ hr => XS.iload X0.here hx rfl (hb hby own_d_prog_68_method_11_code_209) rfl (XS.iload X0.here hx rfl (hb hby own_d_prog_68_method_11_code_211) rfl hr)) ?_
            show own_Go p e below _ (s₁.setTop (mkF m 213 #[.val (.ref a), .val (.int fr0), .val (.int to0), .val (.int ((i + (1 : Int32)) + (1 : Int32))), .val (.int ((own_at y0 y1 y2 y3 y4 y5 i) &&& (255 : Int32))), .val (.int (2 : Int32)), .val (.int (160 : Int32)), .val (.int (191 : Int32)), .val (.int ((own_at y0 y1 y2 y3 y4 y5 (i + (1 : Int32))) &&& (255 : Int32))), s9, s10] [(.int (191 : Int32)), (.int ((own_at y0 y1 y2 y3 y4 y5 (i + (1 : Int32))) &&& (255 : Int32)))]))
            rcases Classical.em ((191 : Int32) < ((own_at y0 y1 y2 y3 y4 y5 (i + (1 : Int32))) &&& (255 : Int32))) with c39 | c39
            · skip
              refine own_go (fun _ hr => XS.icmpNo X0.here hx rfl (hb hby own_d_prog_68_method_11_code_213) rfl (tlt c39).2.2.2 hr) ?_
              show own_Go p e below _ (s₁.setTop (mkF m 216 #[.val (.ref a), .val (.int fr0), .val (.int to0), .val (.int ((i + (1 : Int32)) + (1 : Int32))), .val (.int ((own_at y0 y1 y2 y3 y4 y5 i) &&& (255 : Int32))), .val (.int (2 : Int32)), .val (.int (160 : Int32)), .val (.int (191 : Int32)), .val (.int ((own_at y0 y1 y2 y3 y4 y5 (i + (1 : Int32))) &&& (255 : Int32))), s9, s10] []))
              refine own_go (fun _ hr => XS.iconst X0.here hx rfl (hb hby own_d_prog_68_method_11_code_216) hr) ?_
              show own_Go p e below _ (s₁.setTop (mkF m 217 #[.val (.ref a), .val (.int fr0), .val (.int to0), .val (.int ((i + (1 : Int32)) + (1 : Int32))), .val (.int ((own_at y0 y1 y2 y3 y4 y5 i) &&& (255 : Int32))), .val (.int (2 : Int32)), .val (.int (160 : Int32)), .val (.int (191 : Int32)), .val (.int ((own_at y0 y1 y2 y3 y4 y5 (i + (1 : Int32))) &&& (255 : Int32))), s9, s10] [(.int (0 : Int32))]))
              have ht : own_turn y0 y1 y2 y3 y4 y5 i to0 = -1 := by unfold own_turn; rw [if_neg c2, if_neg c3, if_pos c6, if_neg c8, if_pos c35, if_neg c37, if_neg c38, if_pos c39]
              obtain ⟨k', rfl⟩ : ∃ k', k = k' + 1 := ⟨k - 1, by have q := c1; rw [Int32.lt_iff_toInt_lt] at q; omega⟩
              exact own_retN X0 hx hlk Bd.returns (t := .boolean) (by simp) (hb hby own_d_prog_68_method_11_code_217) (by decide) (by decide) ⟨(congrArg (fun q => some (Value.int q)) (show (0 : Int32) = own_wf y0 y1 y2 y3 y4 y5 to0 6 fr0 from ((own_wf_bad y0 y1 y2 y3 y4 y5 to0 k' i c1 ht)).symm.trans hR)), N0, e0⟩
            refine own_go (fun _ hr => XS.icmpYes X0.here hx rfl (pc0 := 213) (pc' := 218) rfl (hb hby own_d_prog_68_method_11_code_213) rfl (flt c39).2.2.2 (by decide) (by decide) hr) ?_
            show own_Go p e below _ (s₁.setTop (mkF m 218 #[.val (.ref a), .val (.int fr0), .val (.int to0), .val (.int ((i + (1 : Int32)) + (1 : Int32))), .val (.int ((own_at y0 y1 y2 y3 y4 y5 i) &&& (255 : Int32))), .val (.int (2 : Int32)), .val (.int (160 : Int32)), .val (.int (191 : Int32)), .val (.int ((own_at y0 y1 y2 y3 y4 y5 (i + (1 : Int32))) &&& (255 : Int32))), s9, s10] []))
            refine own_go (fun _ hr => XS.iconst X0.here hx rfl (hb hby own_d_prog_68_method_11_code_218) (XS.istoreS X0.here hx rfl (hb hby own_d_prog_68_method_11_code_219) rfl rfl o9 (XS.iload X0.here hx rfl (hb hby own_d_prog_68_method_11_code_221) rfl (XS.iload X0.here hx rfl (hb hby own_d_prog_68_method_11_code_223) rfl (XS.icmpNo X0.here hx rfl (hb hby own_d_prog_68_method_11_code_225) rfl (tlt (by decide)).2.1 (XS.aloadN X0.here hx rfl (hb hby own_d_prog_68_method_11_code_228) rfl rfl (XS.iloadN X0.here hx rfl (hb hby own_d_prog_68_method_11_code_229) rfl (XS.iinc X0.here hx rfl (hb hby own_d_prog_68_method_11_code_230) rfl (l' := #[.val (.ref a), .val (.int fr0), .val (.int to0), .val (.int (((i + (1 : Int32)) + (1 : Int32)) + (1 : Int32))), .val (.int ((own_at y0 y1 y2 y3 y4 y5 i) &&& (255 : Int32))), .val (.int (2 : Int32)), .val (.int (160 : Int32)), .val (.int (191 : Int32)), .val (.int ((own_at y0 y1 y2 y3 y4 y5 (i + (1 : Int32))) &&& (255 : Int32))), .val (.int (1 : Int32)), s10]) rfl (own_baload X0 hx hZ e0 V ((i + (1 : Int32)) + (1 : Int32)) (.int (own_at y0 y1 y2 y3 y4 y5 ((i + (1 : Int32)) + (1 : Int32)))) (own_a2 i ▸ own_tin (k := 2) h1 c1 hto c37 (by decide)) (own_get y0 y1 y2 y3 y4 y5 _ (own_a2 i ▸ own_tin (k := 2) h1 c1 hto c37 (by decide))) rfl rfl (hb hby own_d_prog_68_method_11_code_233) (XS.sipush X0.here hx rfl (hb hby own_d_prog_68_method_11_code_234) hr)))))))))) ?_
            show own_Go p e below _ (s₁.setTop (mkF m 237 #[.val (.ref a), .val (.int fr0), .val (.int to0), .val (.int (((i + (1 : Int32)) + (1 : Int32)) + (1 : Int32))), .val (.int ((own_at y0 y1 y2 y3 y4 y5 i) &&& (255 : Int32))), .val (.int (2 : Int32)), .val (.int (160 : Int32)), .val (.int (191 : Int32)), .val (.int ((own_at y0 y1 y2 y3 y4 y5 (i + (1 : Int32))) &&& (255 : Int32))), .val (.int (1 : Int32)), s10] [(.int (255 : Int32)), (.int (own_at y0 y1 y2 y3 y4 y5 ((i + (1 : Int32)) + (1 : Int32))))]))
            refine own_go (fun _ hr => XS.iand X0.here hx rfl (hb hby own_d_prog_68_method_11_code_237) rfl (XS.istoreS X0.here hx rfl (hb hby own_d_prog_68_method_11_code_238) rfl rfl o10 (XS.iload X0.here hx rfl (hb hby own_d_prog_68_method_11_code_240) rfl (XS.sipush X0.here hx rfl (hb hby own_d_prog_68_method_11_code_242) hr)))) ?_
            show own_Go p e below _ (s₁.setTop (mkF m 245 #[.val (.ref a), .val (.int fr0), .val (.int to0), .val (.int (((i + (1 : Int32)) + (1 : Int32)) + (1 : Int32))), .val (.int ((own_at y0 y1 y2 y3 y4 y5 i) &&& (255 : Int32))), .val (.int (2 : Int32)), .val (.int (160 : Int32)), .val (.int (191 : Int32)), .val (.int ((own_at y0 y1 y2 y3 y4 y5 (i + (1 : Int32))) &&& (255 : Int32))), .val (.int (1 : Int32)), .val (.int ((own_at y0 y1 y2 y3 y4 y5 ((i + (1 : Int32)) + (1 : Int32))) &&& (255 : Int32)))] [(.int (128 : Int32)), (.int ((own_at y0 y1 y2 y3 y4 y5 ((i + (1 : Int32)) + (1 : Int32))) &&& (255 : Int32)))]))
            rcases Classical.em (((own_at y0 y1 y2 y3 y4 y5 ((i + (1 : Int32)) + (1 : Int32))) &&& (255 : Int32)) < (128 : Int32)) with c40 | c40
            · skip
              refine own_go (fun _ hr => XS.icmpYes X0.here hx rfl (pc0 := 245) (pc' := 256) rfl (hb hby own_d_prog_68_method_11_code_245) rfl (tlt c40).1 (by decide) (by decide) hr) ?_
              show own_Go p e below _ (s₁.setTop (mkF m 256 #[.val (.ref a), .val (.int fr0), .val (.int to0), .val (.int (((i + (1 : Int32)) + (1 : Int32)) + (1 : Int32))), .val (.int ((own_at y0 y1 y2 y3 y4 y5 i) &&& (255 : Int32))), .val (.int (2 : Int32)), .val (.int (160 : Int32)), .val (.int (191 : Int32)), .val (.int ((own_at y0 y1 y2 y3 y4 y5 (i + (1 : Int32))) &&& (255 : Int32))), .val (.int (1 : Int32)), .val (.int ((own_at y0 y1 y2 y3 y4 y5 ((i + (1 : Int32)) + (1 : Int32))) &&& (255 : Int32)))] []))
              refine own_go (fun _ hr => XS.iconst X0.here hx rfl (hb hby own_d_prog_68_method_11_code_256) hr) ?_
              show own_Go p e below _ (s₁.setTop (mkF m 257 #[.val (.ref a), .val (.int fr0), .val (.int to0), .val (.int (((i + (1 : Int32)) + (1 : Int32)) + (1 : Int32))), .val (.int ((own_at y0 y1 y2 y3 y4 y5 i) &&& (255 : Int32))), .val (.int (2 : Int32)), .val (.int (160 : Int32)), .val (.int (191 : Int32)), .val (.int ((own_at y0 y1 y2 y3 y4 y5 (i + (1 : Int32))) &&& (255 : Int32))), .val (.int (1 : Int32)), .val (.int ((own_at y0 y1 y2 y3 y4 y5 ((i + (1 : Int32)) + (1 : Int32))) &&& (255 : Int32)))] [(.int (0 : Int32))]))
              have ht : own_turn y0 y1 y2 y3 y4 y5 i to0 = -1 := by unfold own_turn; rw [if_neg c2, if_neg c3, if_pos c6, if_neg c8, if_pos c35, if_neg c37, if_neg c38, if_neg c39, if_pos c40]
              obtain ⟨k', rfl⟩ : ∃ k', k = k' + 1 := ⟨k - 1, by have q := c1; rw [Int32.lt_iff_toInt_lt] at q; omega⟩
              exact own_retN X0 hx hlk Bd.returns (t := .boolean) (by simp) (hb hby own_d_prog_68_method_11_code_257) (by decide) (by decide) ⟨(congrArg (fun q => some (Value.int q)) (show (0 : Int32) = own_wf y0 y1 y2 y3 y4 y5 to0 6 fr0 from ((own_wf_bad y0 y1 y2 y3 y4 y5 to0 k' i c1 ht)).symm.trans hR)), N0, e0⟩
            refine own_go (fun _ hr => XS.icmpNo X0.here hx rfl (hb hby own_d_prog_68_method_11_code_245) rfl (flt c40).1 hr) ?_
            show own_Go p e below _ (s₁.setTop (mkF m 248 #[.val (.ref a), .val (.int fr0), .val (.int to0), .val (.int (((i + (1 : Int32)) + (1 : Int32)) + (1 : Int32))), .val (.int ((own_at y0 y1 y2 y3 y4 y5 i) &&& (255 : Int32))), .val (.int (2 : Int32)), .val (.int (160 : Int32)), .val (.int (191 : Int32)), .val (.int ((own_at y0 y1 y2 y3 y4 y5 (i + (1 : Int32))) &&& (255 : Int32))), .val (.int (1 : Int32)), .val (.int ((own_at y0 y1 y2 y3 y4 y5 ((i + (1 : Int32)) + (1 : Int32))) &&& (255 : Int32)))] []))
            refine own_go (fun _ hr => XS.iload X0.here hx rfl (hb hby own_d_prog_68_method_11_code_248) rfl (XS.sipush X0.here hx rfl (hb hby own_d_prog_68_method_11_code_250) hr)) ?_
            show own_Go p e below _ (s₁.setTop (mkF m 253 #[.val (.ref a), .val (.int fr0), .val (.int to0), .val (.int (((i + (1 : Int32)) + (1 : Int32)) + (1 : Int32))), .val (.int ((own_at y0 y1 y2 y3 y4 y5 i) &&& (255 : Int32))), .val (.int (2 : Int32)), .val (.int (160 : Int32)), .val (.int (191 : Int32)), .val (.int ((own_at y0 y1 y2 y3 y4 y5 (i + (1 : Int32))) &&& (255 : Int32))), .val (.int (1 : Int32)), .val (.int ((own_at y0 y1 y2 y3 y4 y5 ((i + (1 : Int32)) + (1 : Int32))) &&& (255 : Int32)))] [(.int (191 : Int32)), (.int ((own_at y0 y1 y2 y3 y4 y5 ((i + (1 : Int32)) + (1 : Int32))) &&& (255 : Int32)))]))
            rcases Classical.em ((191 : Int32) < ((own_at y0 y1 y2 y3 y4 y5 ((i + (1 : Int32)) + (1 : Int32))) &&& (255 : Int32))) with c41 | c41
            · skip
              refine own_go (fun _ hr => XS.icmpNo X0.here hx rfl (hb hby own_d_prog_68_method_11_code_253) rfl (tlt c41).2.2.2 hr) ?_
              show own_Go p e below _ (s₁.setTop (mkF m 256 #[.val (.ref a), .val (.int fr0), .val (.int to0), .val (.int (((i + (1 : Int32)) + (1 : Int32)) + (1 : Int32))), .val (.int ((own_at y0 y1 y2 y3 y4 y5 i) &&& (255 : Int32))), .val (.int (2 : Int32)), .val (.int (160 : Int32)), .val (.int (191 : Int32)), .val (.int ((own_at y0 y1 y2 y3 y4 y5 (i + (1 : Int32))) &&& (255 : Int32))), .val (.int (1 : Int32)), .val (.int ((own_at y0 y1 y2 y3 y4 y5 ((i + (1 : Int32)) + (1 : Int32))) &&& (255 : Int32)))] []))
              refine own_go (fun _ hr => XS.iconst X0.here hx rfl (hb hby own_d_prog_68_method_11_code_256) hr) ?_
              show own_Go p e below _ (s₁.setTop (mkF m 257 #[.val (.ref a), .val (.int fr0), .val (.int to0), .val (.int (((i + (1 : Int32)) + (1 : Int32)) + (1 : Int32))), .val (.int ((own_at y0 y1 y2 y3 y4 y5 i) &&& (255 : Int32))), .val (.int (2 : Int32)), .val (.int (160 : Int32)), .val (.int (191 : Int32)), .val (.int ((own_at y0 y1 y2 y3 y4 y5 (i + (1 : Int32))) &&& (255 : Int32))), .val (.int (1 : Int32)), .val (.int ((own_at y0 y1 y2 y3 y4 y5 ((i + (1 : Int32)) + (1 : Int32))) &&& (255 : Int32)))] [(.int (0 : Int32))]))
              have ht : own_turn y0 y1 y2 y3 y4 y5 i to0 = -1 := by unfold own_turn; rw [if_neg c2, if_neg c3, if_pos c6, if_neg c8, if_pos c35, if_neg c37, if_neg c38, if_neg c39, if_neg c40, if_pos c41]
              obtain ⟨k', rfl⟩ : ∃ k', k = k' + 1 := ⟨k - 1, by have q := c1; rw [Int32.lt_iff_toInt_lt] at q; omega⟩
              exact own_retN X0 hx hlk Bd.returns (t := .boolean) (by simp) (hb hby own_d_prog_68_method_11_code_257) (by decide) (by decide) ⟨(congrArg (fun q => some (Value.int q)) (show (0 : Int32) = own_wf y0 y1 y2 y3 y4 y5 to0 6 fr0 from ((own_wf_bad y0 y1 y2 y3 y4 y5 to0 k' i c1 ht)).symm.trans hR)), N0, e0⟩
            refine own_go (fun _ hr => XS.icmpYes X0.here hx rfl (pc0 := 253) (pc' := 258) rfl (hb hby own_d_prog_68_method_11_code_253) rfl (flt c41).2.2.2 (by decide) (by decide) hr) ?_
            show own_Go p e below _ (s₁.setTop (mkF m 258 #[.val (.ref a), .val (.int fr0), .val (.int to0), .val (.int (((i + (1 : Int32)) + (1 : Int32)) + (1 : Int32))), .val (.int ((own_at y0 y1 y2 y3 y4 y5 i) &&& (255 : Int32))), .val (.int (2 : Int32)), .val (.int (160 : Int32)), .val (.int (191 : Int32)), .val (.int ((own_at y0 y1 y2 y3 y4 y5 (i + (1 : Int32))) &&& (255 : Int32))), .val (.int (1 : Int32)), .val (.int ((own_at y0 y1 y2 y3 y4 y5 ((i + (1 : Int32)) + (1 : Int32))) &&& (255 : Int32)))] []))
            refine own_go (fun _ hr => XS.iinc X0.here hx rfl (hb hby own_d_prog_68_method_11_code_258) rfl (l' := #[.val (.ref a), .val (.int fr0), .val (.int to0), .val (.int (((i + (1 : Int32)) + (1 : Int32)) + (1 : Int32))), .val (.int ((own_at y0 y1 y2 y3 y4 y5 i) &&& (255 : Int32))), .val (.int (2 : Int32)), .val (.int (160 : Int32)), .val (.int (191 : Int32)), .val (.int ((own_at y0 y1 y2 y3 y4 y5 (i + (1 : Int32))) &&& (255 : Int32))), .val (.int (2 : Int32)), .val (.int ((own_at y0 y1 y2 y3 y4 y5 ((i + (1 : Int32)) + (1 : Int32))) &&& (255 : Int32)))]) rfl (XS.goto X0.here hx rfl (pc0 := 261) (pc' := 221) rfl (hb hby own_d_prog_68_method_11_code_261) (by decide) (by decide) (XS.iload X0.here hx rfl (hb hby own_d_prog_68_method_11_code_221) rfl (XS.iload X0.here hx rfl (hb hby own_d_prog_68_method_11_code_223) rfl (XS.icmpYes X0.here hx rfl (pc0 := 225) (pc' := 264) rfl (hb hby own_d_prog_68_method_11_code_225) rfl (flt (by decide)).2.1 (by decide) (by decide) (XS.goto X0.here hx rfl (pc0 := 264) (pc' := 2) rfl (hb hby own_d_prog_68_method_11_code_264) (by decide) (by decide) hr)))))) ?_
            show own_Go p e below _ (s₁.setTop (mkF m 2 #[.val (.ref a), .val (.int fr0), .val (.int to0), .val (.int (((i + (1 : Int32)) + (1 : Int32)) + (1 : Int32))), .val (.int ((own_at y0 y1 y2 y3 y4 y5 i) &&& (255 : Int32))), .val (.int (2 : Int32)), .val (.int (160 : Int32)), .val (.int (191 : Int32)), .val (.int ((own_at y0 y1 y2 y3 y4 y5 (i + (1 : Int32))) &&& (255 : Int32))), .val (.int (2 : Int32)), .val (.int ((own_at y0 y1 y2 y3 y4 y5 ((i + (1 : Int32)) + (1 : Int32))) &&& (255 : Int32)))] []))
            have ht : own_turn y0 y1 y2 y3 y4 y5 i to0 = (((i + (1 : Int32)) + (1 : Int32)) + (1 : Int32)) := by unfold own_turn; rw [if_neg c2, if_neg c3, if_pos c6, if_neg c8, if_pos c35, if_neg c37, if_neg c38, if_neg c39, if_neg c40, if_neg c41]
            obtain ⟨k', rfl⟩ : ∃ k', k = k' + 1 := ⟨k - 1, by have q := c1; rw [Int32.lt_iff_toInt_lt] at q; omega⟩
            have hb : i.toInt < ((((i + (1 : Int32)) + (1 : Int32)) + (1 : Int32))).toInt ∧ ((((i + (1 : Int32)) + (1 : Int32)) + (1 : Int32))).toInt ≤ to0.toInt ∧ ¬ (((i + (1 : Int32)) + (1 : Int32)) + (1 : Int32)) = -1 := by
              have q0 := rng32 i
              have q1 := c_iadd i (1 : Int32)
              have r1 := rng32 (i + (1 : Int32))
              have q2 := c_iadd (i + (1 : Int32)) (1 : Int32)
              have r2 := rng32 ((i + (1 : Int32)) + (1 : Int32))
              have q3 := c_iadd ((i + (1 : Int32)) + (1 : Int32)) (1 : Int32)
              have r3 := rng32 (((i + (1 : Int32)) + (1 : Int32)) + (1 : Int32))
              have q4 := rng32 to0
              have q5 := c_isub to0 (i + (1 : Int32))
              have r5 := rng32 (to0 - (i + (1 : Int32)))
              have p0 := c1
              have p1 := c37
              simp only [true_implies, Int32.lt_iff_toInt_lt, ← Int32.toInt_inj, Int32.reduceToInt, Int64.lt_iff_toInt_lt, ← Int64.toInt_inj, Int64.reduceToInt] at q0 q1 q2 q3 q4 q5 p0 p1 ⊢
              omega
            exact ih k' (Nat.lt_succ_self _) (((i + (1 : Int32)) + (1 : Int32)) + (1 : Int32)) _ _ _ _ _ _ _ (One.val rfl) (One.val rfl) (One.val rfl) (One.val rfl) (One.val rfl) (One.val rfl) (One.val rfl) (by omega) hb.2.1 (by omega) ((own_wf_on y0 y1 y2 y3 y4 y5 to0 k' i _ c1 ht hb.2.2).symm.trans hR)
          refine own_go (fun _ hr => XS.icmpYes X0.here hx rfl (pc0 := 86) (pc' := 95) rfl (hb hby own_d_prog_68_method_11_code_86) rfl (feq c35).2 (by decide) (by decide) hr) ?_
          show own_Go p e below _ (s₁.setTop (mkF m 95 #[.val (.ref a), .val (.int fr0), .val (.int to0), .val (.int (i + (1 : Int32))), .val (.int ((own_at y0 y1 y2 y3 y4 y5 i) &&& (255 : Int32))), .val (.int (2 : Int32)), .val (.int (128 : Int32)), .val (.int (191 : Int32)), s8, s9, s10] []))
          refine own_go (fun _ hr => XS.iload X0.here hx rfl (hb hby own_d_prog_68_method_11_code_95) rfl (XS.istore X0.here hx rfl (hb hby own_d_prog_68_method_11_code_97) rfl (l' := #[.val (.ref a), .val (.int fr0), .val (.int to0), .val (.int (i + (1 : Int32))), .val (.int ((own_at y0 y1 y2 y3 y4 y5 i) &&& (255 : Int32))), .val (.int (2 : Int32)), .val (.int (128 : Int32)), .val (.int (191 : Int32)), s8, s9, s10]) rfl (XS.iload X0.here hx rfl (hb hby own_d_prog_68_method_11_code_99) rfl (XS.sipush X0.here hx rfl (hb hby own_d_prog_68_method_11_code_101) hr)))) ?_
          show own_Go p e below _ (s₁.setTop (mkF m 104 #[.val (.ref a), .val (.int fr0), .val (.int to0), .val (.int (i + (1 : Int32))), .val (.int ((own_at y0 y1 y2 y3 y4 y5 i) &&& (255 : Int32))), .val (.int (2 : Int32)), .val (.int (128 : Int32)), .val (.int (191 : Int32)), s8, s9, s10] [(.int (237 : Int32)), (.int ((own_at y0 y1 y2 y3 y4 y5 i) &&& (255 : Int32)))]))
          rcases Classical.em (((own_at y0 y1 y2 y3 y4 y5 i) &&& (255 : Int32)) = (237 : Int32)) with c42 | c42
          · skip
            refine own_go (fun _ hr => XS.icmpNo X0.here hx rfl (hb hby own_d_prog_68_method_11_code_104) rfl (teq c42).2 hr) ?_
            show own_Go p e below _ (s₁.setTop (mkF m 107 #[.val (.ref a), .val (.int fr0), .val (.int to0), .val (.int (i + (1 : Int32))), .val (.int ((own_at y0 y1 y2 y3 y4 y5 i) &&& (255 : Int32))), .val (.int (2 : Int32)), .val (.int (128 : Int32)), .val (.int (191 : Int32)), s8, s9, s10] []))
            refine own_go (fun _ hr => XS.sipush X0.here hx rfl (hb hby own_d_prog_68_method_11_code_107) (XS.goto X0.here hx rfl (pc0 := 110) (pc' := 115) rfl (hb hby own_d_prog_68_method_11_code_110) (by decide) (by decide) (XS.istore X0.here hx rfl (hb hby own_d_prog_68_method_11_code_115) rfl (l' := #[.val (.ref a), .val (.int fr0), .val (.int to0), .val (.int (i + (1 : Int32))), .val (.int ((own_at y0 y1 y2 y3 y4 y5 i) &&& (255 : Int32))), .val (.int (2 : Int32)), .val (.int (128 : Int32)), .val (.int (159 : Int32)), s8, s9, s10]) rfl (XS.goto X0.here hx rfl (pc0 := 117) (pc' := 180) rfl (hb hby own_d_prog_68_method_11_code_117) (by decide) (by decide) (XS.iloadN X0.here hx rfl (hb hby own_d_prog_68_method_11_code_180) rfl (XS.iloadN X0.here hx rfl (hb hby own_d_prog_68_method_11_code_181) rfl (XS.isub X0.here hx rfl (hb hby own_d_prog_68_method_11_code_182) rfl (XS.iload X0.here hx rfl (hb hby own_d_prog_68_method_11_code_183) rfl hr)))))))) ?_
            show own_Go p e below _ (s₁.setTop (mkF m 185 #[.val (.ref a), .val (.int fr0), .val (.int to0), .val (.int (i + (1 : Int32))), .val (.int ((own_at y0 y1 y2 y3 y4 y5 i) &&& (255 : Int32))), .val (.int (2 : Int32)), .val (.int (128 : Int32)), .val (.int (159 : Int32)), s8, s9, s10] [(.int (2 : Int32)), (.int (to0 - (i + (1 : Int32))))]))
            rcases Classical.em ((to0 - (i + (1 : Int32))) < (2 : Int32)) with c43 | c43
            · skip
              refine own_go (fun _ hr => XS.icmpNo X0.here hx rfl (hb hby own_d_prog_68_method_11_code_185) rfl (tlt c43).2.1 hr) ?_
              show own_Go p e below _ (s₁.setTop (mkF m 188 #[.val (.ref a), .val (.int fr0), .val (.int to0), .val (.int (i + (1 : Int32))), .val (.int ((own_at y0 y1 y2 y3 y4 y5 i) &&& (255 : Int32))), .val (.int (2 : Int32)), .val (.int (128 : Int32)), .val (.int (159 : Int32)), s8, s9, s10] []))
              refine own_go (fun _ hr => XS.iconst X0.here hx rfl (hb hby own_d_prog_68_method_11_code_188) hr) ?_
              show own_Go p e below _ (s₁.setTop (mkF m 189 #[.val (.ref a), .val (.int fr0), .val (.int to0), .val (.int (i + (1 : Int32))), .val (.int ((own_at y0 y1 y2 y3 y4 y5 i) &&& (255 : Int32))), .val (.int (2 : Int32)), .val (.int (128 : Int32)), .val (.int (159 : Int32)), s8, s9, s10] [(.int (0 : Int32))]))
              have ht : own_turn y0 y1 y2 y3 y4 y5 i to0 = -1 := by unfold own_turn; rw [if_neg c2, if_neg c3, if_pos c6, if_neg c8, if_neg c35, if_pos c42, if_pos c43]
              obtain ⟨k', rfl⟩ : ∃ k', k = k' + 1 := ⟨k - 1, by have q := c1; rw [Int32.lt_iff_toInt_lt] at q; omega⟩
              exact own_retN X0 hx hlk Bd.returns (t := .boolean) (by simp) (hb hby own_d_prog_68_method_11_code_189) (by decide) (by decide) ⟨(congrArg (fun q => some (Value.int q)) (show (0 : Int32) = own_wf y0 y1 y2 y3 y4 y5 to0 6 fr0 from ((own_wf_bad y0 y1 y2 y3 y4 y5 to0 k' i c1 ht)).symm.trans hR)), N0, e0⟩
            refine own_go (fun _ hr => XS.icmpYes X0.here hx rfl (pc0 := 185) (pc' := 190) rfl (hb hby own_d_prog_68_method_11_code_185) rfl (flt c43).2.1 (by decide) (by decide) hr) ?_
            show own_Go p e below _ (s₁.setTop (mkF m 190 #[.val (.ref a), .val (.int fr0), .val (.int to0), .val (.int (i + (1 : Int32))), .val (.int ((own_at y0 y1 y2 y3 y4 y5 i) &&& (255 : Int32))), .val (.int (2 : Int32)), .val (.int (128 : Int32)), .val (.int (159 : Int32)), s8, s9, s10] []))
            refine own_go (fun _ hr => XS.aloadN X0.here hx rfl (hb hby own_d_prog_68_method_11_code_190) rfl rfl (XS.iloadN X0.here hx rfl (hb hby own_d_prog_68_method_11_code_191) rfl (XS.iinc X0.here hx rfl (hb hby own_d_prog_68_method_11_code_192) rfl (l' := #[.val (.ref a), .val (.int fr0), .val (.int to0), .val (.int ((i + (1 : Int32)) + (1 : Int32))), .val (.int ((own_at y0 y1 y2 y3 y4 y5 i) &&& (255 : Int32))), .val (.int (2 : Int32)), .val (.int (128 : Int32)), .val (.int (159 : Int32)), s8, s9, s10]) rfl (own_baload X0 hx hZ e0 V (i + (1 : Int32)) (.int (own_at y0 y1 y2 y3 y4 y5 (i + (1 : Int32)))) (own_tin h1 c1 hto c43 (by decide)) (own_get y0 y1 y2 y3 y4 y5 _ (own_tin h1 c1 hto c43 (by decide))) rfl rfl (hb hby own_d_prog_68_method_11_code_195) (XS.sipush X0.here hx rfl (hb hby own_d_prog_68_method_11_code_196) (XS.iand X0.here hx rfl (hb hby own_d_prog_68_method_11_code_199) rfl (XS.istoreS X0.here hx rfl (hb hby own_d_prog_68_method_11_code_200) rfl rfl o8 (XS.iload X0.here hx rfl (hb hby own_d_prog_68_method_11_code_202) rfl (XS.iload X0.here hx rfl (hb hby own_d_prog_68_method_11_code_204) rfl hr))))))))) ?_
            show own_Go p e below _ (s₁.setTop (mkF m 206 #[.val (.ref a), .val (.int fr0), .val (.int to0), .val (.int ((i + (1 : Int32)) + (1 : Int32))), .val (.int ((own_at y0 y1 y2 y3 y4 y5 i) &&& (255 : Int32))), .val (.int (2 : Int32)), .val (.int (128 : Int32)), .val (.int (159 : Int32)), .val (.int ((own_at y0 y1 y2 y3 y4 y5 (i + (1 : Int32))) &&& (255 : Int32))), s9, s10] [(.int (128 : Int32)), (.int ((own_at y0 y1 y2 y3 y4 y5 (i + (1 : Int32))) &&& (255 : Int32)))]))
            rcases Classical.em (((own_at y0 y1 y2 y3 y4 y5 (i + (1 : Int32))) &&& (255 : Int32)) < (128 : Int32)) with c44 | c44
            · skip
              refine own_go (fun _ hr => XS.icmpYes X0.here hx rfl (pc0 := 206) (pc' := 216) rfl (hb hby own_d_prog_68_method_11_code_206) rfl (tlt c44).1 (by decide) (by decide) hr) ?_
              show own_Go p e below _ (s₁.setTop (mkF m 216 #[.val (.ref a), .val (.int fr0), .val (.int to0), .val (.int ((i + (1 : Int32)) + (1 : Int32))), .val (.int ((own_at y0 y1 y2 y3 y4 y5 i) &&& (255 : Int32))), .val (.int (2 : Int32)), .val (.int (128 : Int32)), .val (.int (159 : Int32)), .val (.int ((own_at y0 y1 y2 y3 y4 y5 (i + (1 : Int32))) &&& (255 : Int32))), s9, s10] []))
              refine own_go (fun _ hr => XS.iconst X0.here hx rfl (hb hby own_d_prog_68_method_11_code_216) hr) ?_
              show own_Go p e below _ (s₁.setTop (mkF m 217 #[.val (.ref a), .val (.int fr0), .val (.int to0), .val (.int ((i + (1 : Int32)) + (1 : Int32))), .val (.int ((own_at y0 y1 y2 y3 y4 y5 i) &&& (255 : Int32))), .val (.int (2 : Int32)), .val (.int (128 : Int32)), .val (.int (159 : Int32)), .val (.int ((own_at y0 y1 y2 y3 y4 y5 (i + (1 : Int32))) &&& (255 : Int32))), s9, s10] [(.int (0 : Int32))]))
              have ht : own_turn y0 y1 y2 y3 y4 y5 i to0 = -1 := by unfold own_turn; rw [if_neg c2, if_neg c3, if_pos c6, if_neg c8, if_neg c35, if_pos c42, if_neg c43, if_pos c44]
              obtain ⟨k', rfl⟩ : ∃ k', k = k' + 1 := ⟨k - 1, by have q := c1; rw [Int32.lt_iff_toInt_lt] at q; omega⟩
              exact own_retN X0 hx hlk Bd.returns (t := .boolean) (by simp) (hb hby own_d_prog_68_method_11_code_217) (by decide) (by decide) ⟨(congrArg (fun q => some (Value.int q)) (show (0 : Int32) = own_wf y0 y1 y2 y3 y4 y5 to0 6 fr0 from ((own_wf_bad y0 y1 y2 y3 y4 y5 to0 k' i c1 ht)).symm.trans hR)), N0, e0⟩
            refine own_go (fun _ hr => XS.icmpNo X0.here hx rfl (hb hby own_d_prog_68_method_11_code_206) rfl (flt c44).1 hr) ?_
            show own_Go p e below _ (s₁.setTop (mkF m 209 #[.val (.ref a), .val (.int fr0), .val (.int to0), .val (.int ((i + (1 : Int32)) + (1 : Int32))), .val (.int ((own_at y0 y1 y2 y3 y4 y5 i) &&& (255 : Int32))), .val (.int (2 : Int32)), .val (.int (128 : Int32)), .val (.int (159 : Int32)), .val (.int ((own_at y0 y1 y2 y3 y4 y5 (i + (1 : Int32))) &&& (255 : Int32))), s9, s10] []))
            refine own_go (fun _ hr => XS.iload X0.here hx rfl (hb hby own_d_prog_68_method_11_code_209) rfl (XS.iload X0.here hx rfl (hb hby own_d_prog_68_method_11_code_211) rfl hr)) ?_
            show own_Go p e below _ (s₁.setTop (mkF m 213 #[.val (.ref a), .val (.int fr0), .val (.int to0), .val (.int ((i + (1 : Int32)) + (1 : Int32))), .val (.int ((own_at y0 y1 y2 y3 y4 y5 i) &&& (255 : Int32))), .val (.int (2 : Int32)), .val (.int (128 : Int32)), .val (.int (159 : Int32)), .val (.int ((own_at y0 y1 y2 y3 y4 y5 (i + (1 : Int32))) &&& (255 : Int32))), s9, s10] [(.int (159 : Int32)), (.int ((own_at y0 y1 y2 y3 y4 y5 (i + (1 : Int32))) &&& (255 : Int32)))]))
            rcases Classical.em ((159 : Int32) < ((own_at y0 y1 y2 y3 y4 y5 (i + (1 : Int32))) &&& (255 : Int32))) with c45 | c45
            · skip
              refine own_go (fun _ hr => XS.icmpNo X0.here hx rfl (hb hby own_d_prog_68_method_11_code_213) rfl (tlt c45).2.2.2 hr) ?_
              show own_Go p e below _ (s₁.setTop (mkF m 216 #[.val (.ref a), .val (.int fr0), .val (.int to0), .val (.int ((i + (1 : Int32)) + (1 : Int32))), .val (.int ((own_at y0 y1 y2 y3 y4 y5 i) &&& (255 : Int32))), .val (.int (2 : Int32)), .val (.int (128 : Int32)), .val (.int (159 : Int32)), .val (.int ((own_at y0 y1 y2 y3 y4 y5 (i + (1 : Int32))) &&& (255 : Int32))), s9, s10] []))
              refine own_go (fun _ hr => XS.iconst X0.here hx rfl (hb hby own_d_prog_68_method_11_code_216) hr) ?_
              show own_Go p e below _ (s₁.setTop (mkF m 217 #[.val (.ref a), .val (.int fr0), .val (.int to0), .val (.int ((i + (1 : Int32)) + (1 : Int32))), .val (.int ((own_at y0 y1 y2 y3 y4 y5 i) &&& (255 : Int32))), .val (.int (2 : Int32)), .val (.int (128 : Int32)), .val (.int (159 : Int32)), .val (.int ((own_at y0 y1 y2 y3 y4 y5 (i + (1 : Int32))) &&& (255 : Int32))), s9, s10] [(.int (0 : Int32))]))
              have ht : own_turn y0 y1 y2 y3 y4 y5 i to0 = -1 := by unfold own_turn; rw [if_neg c2, if_neg c3, if_pos c6, if_neg c8, if_neg c35, if_pos c42, if_neg c43, if_neg c44, if_pos c45]
              obtain ⟨k', rfl⟩ : ∃ k', k = k' + 1 := ⟨k - 1, by have q := c1; rw [Int32.lt_iff_toInt_lt] at q; omega⟩
              exact own_retN X0 hx hlk Bd.returns (t := .boolean) (by simp) (hb hby own_d_prog_68_method_11_code_217) (by decide) (by decide) ⟨(congrArg (fun q => some (Value.int q)) (show (0 : Int32) = own_wf y0 y1 y2 y3 y4 y5 to0 6 fr0 from ((own_wf_bad y0 y1 y2 y3 y4 y5 to0 k' i c1 ht)).symm.trans hR)), N0, e0⟩
            refine own_go (fun _ hr => XS.icmpYes X0.here hx rfl (pc0 := 213) (pc' := 218) rfl (hb hby own_d_prog_68_method_11_code_213) rfl (flt c45).2.2.2 (by decide) (by decide) hr) ?_
            show own_Go p e below _ (s₁.setTop (mkF m 218 #[.val (.ref a), .val (.int fr0), .val (.int to0), .val (.int ((i + (1 : Int32)) + (1 : Int32))), .val (.int ((own_at y0 y1 y2 y3 y4 y5 i) &&& (255 : Int32))), .val (.int (2 : Int32)), .val (.int (128 : Int32)), .val (.int (159 : Int32)), .val (.int ((own_at y0 y1 y2 y3 y4 y5 (i + (1 : Int32))) &&& (255 : Int32))), s9, s10] []))
            refine own_go (fun _ hr => XS.iconst X0.here hx rfl (hb hby own_d_prog_68_method_11_code_218) (XS.istoreS X0.here hx rfl (hb hby own_d_prog_68_method_11_code_219) rfl rfl o9 (XS.iload X0.here hx rfl (hb hby own_d_prog_68_method_11_code_221) rfl (XS.iload X0.here hx rfl (hb hby own_d_prog_68_method_11_code_223) rfl (XS.icmpNo X0.here hx rfl (hb hby own_d_prog_68_method_11_code_225) rfl (tlt (by decide)).2.1 (XS.aloadN X0.here hx rfl (hb hby own_d_prog_68_method_11_code_228) rfl rfl (XS.iloadN X0.here hx rfl (hb hby own_d_prog_68_method_11_code_229) rfl (XS.iinc X0.here hx rfl (hb hby own_d_prog_68_method_11_code_230) rfl (l' := #[.val (.ref a), .val (.int fr0), .val (.int to0), .val (.int (((i + (1 : Int32)) + (1 : Int32)) + (1 : Int32))), .val (.int ((own_at y0 y1 y2 y3 y4 y5 i) &&& (255 : Int32))), .val (.int (2 : Int32)), .val (.int (128 : Int32)), .val (.int (159 : Int32)), .val (.int ((own_at y0 y1 y2 y3 y4 y5 (i + (1 : Int32))) &&& (255 : Int32))), .val (.int (1 : Int32)), s10]) rfl (own_baload X0 hx hZ e0 V ((i + (1 : Int32)) + (1 : Int32)) (.int (own_at y0 y1 y2 y3 y4 y5 ((i + (1 : Int32)) + (1 : Int32)))) (own_a2 i ▸ own_tin (k := 2) h1 c1 hto c43 (by decide)) (own_get y0 y1 y2 y3 y4 y5 _ (own_a2 i ▸ own_tin (k := 2) h1 c1 hto c43 (by decide))) rfl rfl (hb hby own_d_prog_68_method_11_code_233) (XS.sipush X0.here hx rfl (hb hby own_d_prog_68_method_11_code_234) hr)))))))))) ?_
            show own_Go p e below _ (s₁.setTop (mkF m 237 #[.val (.ref a), .val (.int fr0), .val (.int to0), .val (.int (((i + (1 : Int32)) + (1 : Int32)) + (1 : Int32))), .val (.int ((own_at y0 y1 y2 y3 y4 y5 i) &&& (255 : Int32))), .val (.int (2 : Int32)), .val (.int (128 : Int32)), .val (.int (159 : Int32)), .val (.int ((own_at y0 y1 y2 y3 y4 y5 (i + (1 : Int32))) &&& (255 : Int32))), .val (.int (1 : Int32)), s10] [(.int (255 : Int32)), (.int (own_at y0 y1 y2 y3 y4 y5 ((i + (1 : Int32)) + (1 : Int32))))]))
            refine own_go (fun _ hr => XS.iand X0.here hx rfl (hb hby own_d_prog_68_method_11_code_237) rfl (XS.istoreS X0.here hx rfl (hb hby own_d_prog_68_method_11_code_238) rfl rfl o10 (XS.iload X0.here hx rfl (hb hby own_d_prog_68_method_11_code_240) rfl (XS.sipush X0.here hx rfl (hb hby own_d_prog_68_method_11_code_242) hr)))) ?_
            show own_Go p e below _ (s₁.setTop (mkF m 245 #[.val (.ref a), .val (.int fr0), .val (.int to0), .val (.int (((i + (1 : Int32)) + (1 : Int32)) + (1 : Int32))), .val (.int ((own_at y0 y1 y2 y3 y4 y5 i) &&& (255 : Int32))), .val (.int (2 : Int32)), .val (.int (128 : Int32)), .val (.int (159 : Int32)), .val (.int ((own_at y0 y1 y2 y3 y4 y5 (i + (1 : Int32))) &&& (255 : Int32))), .val (.int (1 : Int32)), .val (.int ((own_at y0 y1 y2 y3 y4 y5 ((i + (1 : Int32)) + (1 : Int32))) &&& (255 : Int32)))] [(.int (128 : Int32)), (.int ((own_at y0 y1 y2 y3 y4 y5 ((i + (1 : Int32)) + (1 : Int32))) &&& (255 : Int32)))]))
            rcases Classical.em (((own_at y0 y1 y2 y3 y4 y5 ((i + (1 : Int32)) + (1 : Int32))) &&& (255 : Int32)) < (128 : Int32)) with c46 | c46
            · skip
              refine own_go (fun _ hr => XS.icmpYes X0.here hx rfl (pc0 := 245) (pc' := 256) rfl (hb hby own_d_prog_68_method_11_code_245) rfl (tlt c46).1 (by decide) (by decide) hr) ?_
              show own_Go p e below _ (s₁.setTop (mkF m 256 #[.val (.ref a), .val (.int fr0), .val (.int to0), .val (.int (((i + (1 : Int32)) + (1 : Int32)) + (1 : Int32))), .val (.int ((own_at y0 y1 y2 y3 y4 y5 i) &&& (255 : Int32))), .val (.int (2 : Int32)), .val (.int (128 : Int32)), .val (.int (159 : Int32)), .val (.int ((own_at y0 y1 y2 y3 y4 y5 (i + (1 : Int32))) &&& (255 : Int32))), .val (.int (1 : Int32)), .val (.int ((own_at y0 y1 y2 y3 y4 y5 ((i + (1 : Int32)) + (1 : Int32))) &&& (255 : Int32)))] []))
              refine own_go (fun _ hr => XS.iconst X0.here hx rfl (hb hby own_d_prog_68_method_11_code_256) hr) ?_
              show own_Go p e below _ (s₁.setTop (mkF m 257 #[.val (.ref a), .val (.int fr0), .val (.int to0), .val (.int (((i + (1 : Int32)) + (1 : Int32)) + (1 : Int32))), .val (.int ((own_at y0 y1 y2 y3 y4 y5 i) &&& (255 : Int32))), .val (.int (2 : Int32)), .val (.int (128 : Int32)), .val (.int (159 : Int32)), .val (.int ((own_at y0 y1 y2 y3 y4 y5 (i + (1 : Int32))) &&& (255 : Int32))), .val (.int (1 : Int32)), .val (.int ((own_at y0 y1 y2 y3 y4 y5 ((i + (1 : Int32)) + (1 : Int32))) &&& (255 : Int32)))] [(.int (0 : Int32))]))
              have ht : own_turn y0 y1 y2 y3 y4 y5 i to0 = -1 := by unfold own_turn; rw [if_neg c2, if_neg c3, if_pos c6, if_neg c8, if_neg c35, if_pos c42, if_neg c43, if_neg c44, if_neg c45, if_pos c46]
              obtain ⟨k', rfl⟩ : ∃ k', k = k' + 1 := ⟨k - 1, by have q := c1; rw [Int32.lt_iff_toInt_lt] at q; omega⟩
              exact own_retN X0 hx hlk Bd.returns (t := .boolean) (by simp) (hb hby own_d_prog_68_method_11_code_257) (by decide) (by decide) ⟨(congrArg (fun q => some (Value.int q)) (show (0 : Int32) = own_wf y0 y1 y2 y3 y4 y5 to0 6 fr0 from ((own_wf_bad y0 y1 y2 y3 y4 y5 to0 k' i c1 ht)).symm.trans hR)), N0, e0⟩
            refine own_go (fun _ hr => XS.icmpNo X0.here hx rfl (hb hby own_d_prog_68_method_11_code_245) rfl (flt c46).1 hr) ?_
            show own_Go p e below _ (s₁.setTop (mkF m 248 #[.val (.ref a), .val (.int fr0), .val (.int to0), .val (.int (((i + (1 : Int32)) + (1 : Int32)) + (1 : Int32))), .val (.int ((own_at y0 y1 y2 y3 y4 y5 i) &&& (255 : Int32))), .val (.int (2 : Int32)), .val (.int (128 : Int32)), .val (.int (159 : Int32)), .val (.int ((own_at y0 y1 y2 y3 y4 y5 (i + (1 : Int32))) &&& (255 : Int32))), .val (.int (1 : Int32)), .val (.int ((own_at y0 y1 y2 y3 y4 y5 ((i + (1 : Int32)) + (1 : Int32))) &&& (255 : Int32)))] []))
            refine own_go (fun _ hr => XS.iload X0.here hx rfl (hb hby own_d_prog_68_method_11_code_248) rfl (XS.sipush X0.here hx rfl (hb hby own_d_prog_68_method_11_code_250) hr)) ?_
            show own_Go p e below _ (s₁.setTop (mkF m 253 #[.val (.ref a), .val (.int fr0), .val (.int to0), .val (.int (((i + (1 : Int32)) + (1 : Int32)) + (1 : Int32))), .val (.int ((own_at y0 y1 y2 y3 y4 y5 i) &&& (255 : Int32))), .val (.int (2 : Int32)), .val (.int (128 : Int32)), .val (.int (159 : Int32)), .val (.int ((own_at y0 y1 y2 y3 y4 y5 (i + (1 : Int32))) &&& (255 : Int32))), .val (.int (1 : Int32)), .val (.int ((own_at y0 y1 y2 y3 y4 y5 ((i + (1 : Int32)) + (1 : Int32))) &&& (255 : Int32)))] [(.int (191 : Int32)), (.int ((own_at y0 y1 y2 y3 y4 y5 ((i + (1 : Int32)) + (1 : Int32))) &&& (255 : Int32)))]))
            rcases Classical.em ((191 : Int32) < ((own_at y0 y1 y2 y3 y4 y5 ((i + (1 : Int32)) + (1 : Int32))) &&& (255 : Int32))) with c47 | c47
            · skip
              refine own_go (fun _ hr => XS.icmpNo X0.here hx rfl (hb hby own_d_prog_68_method_11_code_253) rfl (tlt c47).2.2.2 hr) ?_
              show own_Go p e below _ (s₁.setTop (mkF m 256 #[.val (.ref a), .val (.int fr0), .val (.int to0), .val (.int (((i + (1 : Int32)) + (1 : Int32)) + (1 : Int32))), .val (.int ((own_at y0 y1 y2 y3 y4 y5 i) &&& (255 : Int32))), .val (.int (2 : Int32)), .val (.int (128 : Int32)), .val (.int (159 : Int32)), .val (.int ((own_at y0 y1 y2 y3 y4 y5 (i + (1 : Int32))) &&& (255 : Int32))), .val (.int (1 : Int32)), .val (.int ((own_at y0 y1 y2 y3 y4 y5 ((i + (1 : Int32)) + (1 : Int32))) &&& (255 : Int32)))] []))
              refine own_go (fun _ hr => XS.iconst X0.here hx rfl (hb hby own_d_prog_68_method_11_code_256) hr) ?_
              show own_Go p e below _ (s₁.setTop (mkF m 257 #[.val (.ref a), .val (.int fr0), .val (.int to0), .val (.int (((i + (1 : Int32)) + (1 : Int32)) + (1 : Int32))), .val (.int ((own_at y0 y1 y2 y3 y4 y5 i) &&& (255 : Int32))), .val (.int (2 : Int32)), .val (.int (128 : Int32)), .val (.int (159 : Int32)), .val (.int ((own_at y0 y1 y2 y3 y4 y5 (i + (1 : Int32))) &&& (255 : Int32))), .val (.int (1 : Int32)), .val (.int ((own_at y0 y1 y2 y3 y4 y5 ((i + (1 : Int32)) + (1 : Int32))) &&& (255 : Int32)))] [(.int (0 : Int32))]))
              have ht : own_turn y0 y1 y2 y3 y4 y5 i to0 = -1 := by unfold own_turn; rw [if_neg c2, if_neg c3, if_pos c6, if_neg c8, if_neg c35, if_pos c42, if_neg c43, if_neg c44, if_neg c45, if_neg c46, if_pos c47]
              obtain ⟨k', rfl⟩ : ∃ k', k = k' + 1 := ⟨k - 1, by have q := c1; rw [Int32.lt_iff_toInt_lt] at q; omega⟩
              exact own_retN X0 hx hlk Bd.returns (t := .boolean) (by simp) (hb hby own_d_prog_68_method_11_code_257) (by decide) (by decide) ⟨(congrArg (fun q => some (Value.int q)) (show (0 : Int32) = own_wf y0 y1 y2 y3 y4 y5 to0 6 fr0 from ((own_wf_bad y0 y1 y2 y3 y4 y5 to0 k' i c1 ht)).symm.trans hR)), N0, e0⟩
            refine own_go (fun _ hr => XS.icmpYes X0.here hx rfl (pc0 := 253) (pc' := 258) rfl (hb hby own_d_prog_68_method_11_code_253) rfl (flt c47).2.2.2 (by decide) (by decide) hr) ?_
            show own_Go p e below _ (s₁.setTop (mkF m 258 #[.val (.ref a), .val (.int fr0), .val (.int to0), .val (.int (((i + (1 : Int32)) + (1 : Int32)) + (1 : Int32))), .val (.int ((own_at y0 y1 y2 y3 y4 y5 i) &&& (255 : Int32))), .val (.int (2 : Int32)), .val (.int (128 : Int32)), .val (.int (159 : Int32)), .val (.int ((own_at y0 y1 y2 y3 y4 y5 (i + (1 : Int32))) &&& (255 : Int32))), .val (.int (1 : Int32)), .val (.int ((own_at y0 y1 y2 y3 y4 y5 ((i + (1 : Int32)) + (1 : Int32))) &&& (255 : Int32)))] []))
            refine own_go (fun _ hr => XS.iinc X0.here hx rfl (hb hby own_d_prog_68_method_11_code_258) rfl (l' := #[.val (.ref a), .val (.int fr0), .val (.int to0), .val (.int (((i + (1 : Int32)) + (1 : Int32)) + (1 : Int32))), .val (.int ((own_at y0 y1 y2 y3 y4 y5 i) &&& (255 : Int32))), .val (.int (2 : Int32)), .val (.int (128 : Int32)), .val (.int (159 : Int32)), .val (.int ((own_at y0 y1 y2 y3 y4 y5 (i + (1 : Int32))) &&& (255 : Int32))), .val (.int (2 : Int32)), .val (.int ((own_at y0 y1 y2 y3 y4 y5 ((i + (1 : Int32)) + (1 : Int32))) &&& (255 : Int32)))]) rfl (XS.goto X0.here hx rfl (pc0 := 261) (pc' := 221) rfl (hb hby own_d_prog_68_method_11_code_261) (by decide) (by decide) (XS.iload X0.here hx rfl (hb hby own_d_prog_68_method_11_code_221) rfl (XS.iload X0.here hx rfl (hb hby own_d_prog_68_method_11_code_223) rfl (XS.icmpYes X0.here hx rfl (pc0 := 225) (pc' := 264) rfl (hb hby own_d_prog_68_method_11_code_225) rfl (flt (by decide)).2.1 (by decide) (by decide) (XS.goto X0.here hx rfl (pc0 := 264) (pc' := 2) rfl (hb hby own_d_prog_68_method_11_code_264) (by decide) (by decide) hr)))))) ?_
            show own_Go p e below _ (s₁.setTop (mkF m 2 #[.val (.ref a), .val (.int fr0), .val (.int to0), .val (.int (((i + (1 : Int32)) + (1 : Int32)) + (1 : Int32))), .val (.int ((own_at y0 y1 y2 y3 y4 y5 i) &&& (255 : Int32))), .val (.int (2 : Int32)), .val (.int (128 : Int32)), .val (.int (159 : Int32)), .val (.int ((own_at y0 y1 y2 y3 y4 y5 (i + (1 : Int32))) &&& (255 : Int32))), .val (.int (2 : Int32)), .val (.int ((own_at y0 y1 y2 y3 y4 y5 ((i + (1 : Int32)) + (1 : Int32))) &&& (255 : Int32)))] []))
            have ht : own_turn y0 y1 y2 y3 y4 y5 i to0 = (((i + (1 : Int32)) + (1 : Int32)) + (1 : Int32)) := by unfold own_turn; rw [if_neg c2, if_neg c3, if_pos c6, if_neg c8, if_neg c35, if_pos c42, if_neg c43, if_neg c44, if_neg c45, if_neg c46, if_neg c47]
            obtain ⟨k', rfl⟩ : ∃ k', k = k' + 1 := ⟨k - 1, by have q := c1; rw [Int32.lt_iff_toInt_lt] at q; omega⟩
            have hb : i.toInt < ((((i + (1 : Int32)) + (1 : Int32)) + (1 : Int32))).toInt ∧ ((((i + (1 : Int32)) + (1 : Int32)) + (1 : Int32))).toInt ≤ to0.toInt ∧ ¬ (((i + (1 : Int32)) + (1 : Int32)) + (1 : Int32)) = -1 := by
              have q0 := rng32 i
              have q1 := c_iadd i (1 : Int32)
              have r1 := rng32 (i + (1 : Int32))
              have q2 := c_iadd (i + (1 : Int32)) (1 : Int32)
              have r2 := rng32 ((i + (1 : Int32)) + (1 : Int32))
              have q3 := c_iadd ((i + (1 : Int32)) + (1 : Int32)) (1 : Int32)
              have r3 := rng32 (((i + (1 : Int32)) + (1 : Int32)) + (1 : Int32))
              have q4 := rng32 to0
              have q5 := c_isub to0 (i + (1 : Int32))
              have r5 := rng32 (to0 - (i + (1 : Int32)))
              have p0 := c1
              have p1 := c43
              simp only [true_implies, Int32.lt_iff_toInt_lt, ← Int32.toInt_inj, Int32.reduceToInt, Int64.lt_iff_toInt_lt, ← Int64.toInt_inj, Int64.reduceToInt] at q0 q1 q2 q3 q4 q5 p0 p1 ⊢
              omega
            exact ih k' (Nat.lt_succ_self _) (((i + (1 : Int32)) + (1 : Int32)) + (1 : Int32)) _ _ _ _ _ _ _ (One.val rfl) (One.val rfl) (One.val rfl) (One.val rfl) (One.val rfl) (One.val rfl) (One.val rfl) (by omega) hb.2.1 (by omega) ((own_wf_on y0 y1 y2 y3 y4 y5 to0 k' i _ c1 ht hb.2.2).symm.trans hR)
          refine own_go (fun _ hr => XS.icmpYes X0.here hx rfl (pc0 := 104) (pc' := 113) rfl (hb hby own_d_prog_68_method_11_code_104) rfl (feq c42).2 (by decide) (by decide) hr) ?_
          show own_Go p e below _ (s₁.setTop (mkF m 113 #[.val (.ref a), .val (.int fr0), .val (.int to0), .val (.int (i + (1 : Int32))), .val (.int ((own_at y0 y1 y2 y3 y4 y5 i) &&& (255 : Int32))), .val (.int (2 : Int32)), .val (.int (128 : Int32)), .val (.int (191 : Int32)), s8, s9, s10] []))
          refine own_go (fun _ hr => XS.iload X0.here hx rfl (hb hby own_d_prog_68_method_11_code_113) rfl (XS.istore X0.here hx rfl (hb hby own_d_prog_68_method_11_code_115) rfl (l' := #[.val (.ref a), .val (.int fr0), .val (.int to0), .val (.int (i + (1 : Int32))), .val (.int ((own_at y0 y1 y2 y3 y4 y5 i) &&& (255 : Int32))), .val (.int (2 : Int32)), .val (.int (128 : Int32)), .val (.int (191 : Int32)), s8, s9, s10]) rfl (XS.goto X0.here hx rfl (pc0 := 117) (pc' := 180) rfl (hb hby own_d_prog_68_method_11_code_117) (by decide) (by decide) (XS.iloadN X0.here hx rfl (hb hby own_d_prog_68_method_11_code_180) rfl (XS.iloadN X0.here hx rfl (hb hby own_d_prog_68_method_11_code_181) rfl (XS.isub X0.here hx rfl (hb hby own_d_prog_68_method_11_code_182) rfl (XS.iload X0.here hx rfl (hb hby own_d_prog_68_method_11_code_183) rfl hr))))))) ?_
          show own_Go p e below _ (s₁.setTop (mkF m 185 #[.val (.ref a), .val (.int fr0), .val (.int to0), .val (.int (i + (1 : Int32))), .val (.int ((own_at y0 y1 y2 y3 y4 y5 i) &&& (255 : Int32))), .val (.int (2 : Int32)), .val (.int (128 : Int32)), .val (.int (191 : Int32)), s8, s9, s10] [(.int (2 : Int32)), (.int (to0 - (i + (1 : Int32))))]))
          rcases Classical.em ((to0 - (i + (1 : Int32))) < (2 : Int32)) with c48 | c48
          · skip
            refine own_go (fun _ hr => XS.icmpNo X0.here hx rfl (hb hby own_d_prog_68_method_11_code_185) rfl (tlt c48).2.1 hr) ?_
            show own_Go p e below _ (s₁.setTop (mkF m 188 #[.val (.ref a), .val (.int fr0), .val (.int to0), .val (.int (i + (1 : Int32))), .val (.int ((own_at y0 y1 y2 y3 y4 y5 i) &&& (255 : Int32))), .val (.int (2 : Int32)), .val (.int (128 : Int32)), .val (.int (191 : Int32)), s8, s9, s10] []))
            refine own_go (fun _ hr => XS.iconst X0.here hx rfl (hb hby own_d_prog_68_method_11_code_188) hr) ?_
            show own_Go p e below _ (s₁.setTop (mkF m 189 #[.val (.ref a), .val (.int fr0), .val (.int to0), .val (.int (i + (1 : Int32))), .val (.int ((own_at y0 y1 y2 y3 y4 y5 i) &&& (255 : Int32))), .val (.int (2 : Int32)), .val (.int (128 : Int32)), .val (.int (191 : Int32)), s8, s9, s10] [(.int (0 : Int32))]))
            have ht : own_turn y0 y1 y2 y3 y4 y5 i to0 = -1 := by unfold own_turn; rw [if_neg c2, if_neg c3, if_pos c6, if_neg c8, if_neg c35, if_neg c42, if_pos c48]
            obtain ⟨k', rfl⟩ : ∃ k', k = k' + 1 := ⟨k - 1, by have q := c1; rw [Int32.lt_iff_toInt_lt] at q; omega⟩
            exact own_retN X0 hx hlk Bd.returns (t := .boolean) (by simp) (hb hby own_d_prog_68_method_11_code_189) (by decide) (by decide) ⟨(congrArg (fun q => some (Value.int q)) (show (0 : Int32) = own_wf y0 y1 y2 y3 y4 y5 to0 6 fr0 from ((own_wf_bad y0 y1 y2 y3 y4 y5 to0 k' i c1 ht)).symm.trans hR)), N0, e0⟩
          refine own_go (fun _ hr => XS.icmpYes X0.here hx rfl (pc0 := 185) (pc' := 190) rfl (hb hby own_d_prog_68_method_11_code_185) rfl (flt c48).2.1 (by decide) (by decide) hr) ?_
          show own_Go p e below _ (s₁.setTop (mkF m 190 #[.val (.ref a), .val (.int fr0), .val (.int to0), .val (.int (i + (1 : Int32))), .val (.int ((own_at y0 y1 y2 y3 y4 y5 i) &&& (255 : Int32))), .val (.int (2 : Int32)), .val (.int (128 : Int32)), .val (.int (191 : Int32)), s8, s9, s10] []))
          refine own_go (fun _ hr => XS.aloadN X0.here hx rfl (hb hby own_d_prog_68_method_11_code_190) rfl rfl (XS.iloadN X0.here hx rfl (hb hby own_d_prog_68_method_11_code_191) rfl (XS.iinc X0.here hx rfl (hb hby own_d_prog_68_method_11_code_192) rfl (l' := #[.val (.ref a), .val (.int fr0), .val (.int to0), .val (.int ((i + (1 : Int32)) + (1 : Int32))), .val (.int ((own_at y0 y1 y2 y3 y4 y5 i) &&& (255 : Int32))), .val (.int (2 : Int32)), .val (.int (128 : Int32)), .val (.int (191 : Int32)), s8, s9, s10]) rfl (own_baload X0 hx hZ e0 V (i + (1 : Int32)) (.int (own_at y0 y1 y2 y3 y4 y5 (i + (1 : Int32)))) (own_tin h1 c1 hto c48 (by decide)) (own_get y0 y1 y2 y3 y4 y5 _ (own_tin h1 c1 hto c48 (by decide))) rfl rfl (hb hby own_d_prog_68_method_11_code_195) (XS.sipush X0.here hx rfl (hb hby own_d_prog_68_method_11_code_196) (XS.iand X0.here hx rfl (hb hby own_d_prog_68_method_11_code_199) rfl (XS.istoreS X0.here hx rfl (hb hby own_d_prog_68_method_11_code_200) rfl rfl o8 (XS.iload X0.here hx rfl (hb hby own_d_prog_68_method_11_code_202) rfl (XS.iload X0.here hx rfl (hb hby own_d_prog_68_method_11_code_204) rfl hr))))))))) ?_
          show own_Go p e below _ (s₁.setTop (mkF m 206 #[.val (.ref a), .val (.int fr0), .val (.int to0), .val (.int ((i + (1 : Int32)) + (1 : Int32))), .val (.int ((own_at y0 y1 y2 y3 y4 y5 i) &&& (255 : Int32))), .val (.int (2 : Int32)), .val (.int (128 : Int32)), .val (.int (191 : Int32)), .val (.int ((own_at y0 y1 y2 y3 y4 y5 (i + (1 : Int32))) &&& (255 : Int32))), s9, s10] [(.int (128 : Int32)), (.int ((own_at y0 y1 y2 y3 y4 y5 (i + (1 : Int32))) &&& (255 : Int32)))]))
          rcases Classical.em (((own_at y0 y1 y2 y3 y4 y5 (i + (1 : Int32))) &&& (255 : Int32)) < (128 : Int32)) with c49 | c49
          · skip
            refine own_go (fun _ hr => XS.icmpYes X0.here hx rfl (pc0 := 206) (pc' := 216) rfl (hb hby own_d_prog_68_method_11_code_206) rfl (tlt c49).1 (by decide) (by decide) hr) ?_
            show own_Go p e below _ (s₁.setTop (mkF m 216 #[.val (.ref a), .val (.int fr0), .val (.int to0), .val (.int ((i + (1 : Int32)) + (1 : Int32))), .val (.int ((own_at y0 y1 y2 y3 y4 y5 i) &&& (255 : Int32))), .val (.int (2 : Int32)), .val (.int (128 : Int32)), .val (.int (191 : Int32)), .val (.int ((own_at y0 y1 y2 y3 y4 y5 (i + (1 : Int32))) &&& (255 : Int32))), s9, s10] []))
            refine own_go (fun _ hr => XS.iconst X0.here hx rfl (hb hby own_d_prog_68_method_11_code_216) hr) ?_
            show own_Go p e below _ (s₁.setTop (mkF m 217 #[.val (.ref a), .val (.int fr0), .val (.int to0), .val (.int ((i + (1 : Int32)) + (1 : Int32))), .val (.int ((own_at y0 y1 y2 y3 y4 y5 i) &&& (255 : Int32))), .val (.int (2 : Int32)), .val (.int (128 : Int32)), .val (.int (191 : Int32)), .val (.int ((own_at y0 y1 y2 y3 y4 y5 (i + (1 : Int32))) &&& (255 : Int32))), s9, s10] [(.int (0 : Int32))]))
            have ht : own_turn y0 y1 y2 y3 y4 y5 i to0 = -1 := by unfold own_turn; rw [if_neg c2, if_neg c3, if_pos c6, if_neg c8, if_neg c35, if_neg c42, if_neg c48, if_pos c49]
            obtain ⟨k', rfl⟩ : ∃ k', k = k' + 1 := ⟨k - 1, by have q := c1; rw [Int32.lt_iff_toInt_lt] at q; omega⟩
            exact own_retN X0 hx hlk Bd.returns (t := .boolean) (by simp) (hb hby own_d_prog_68_method_11_code_217) (by decide) (by decide) ⟨(congrArg (fun q => some (Value.int q)) (show (0 : Int32) = own_wf y0 y1 y2 y3 y4 y5 to0 6 fr0 from ((own_wf_bad y0 y1 y2 y3 y4 y5 to0 k' i c1 ht)).symm.trans hR)), N0, e0⟩
          refine own_go (fun _ hr => XS.icmpNo X0.here hx rfl (hb hby own_d_prog_68_method_11_code_206) rfl (flt c49).1 hr) ?_
          show own_Go p e below _ (s₁.setTop (mkF m 209 #[.val (.ref a), .val (.int fr0), .val (.int to0), .val (.int ((i + (1 : Int32)) + (1 : Int32))), .val (.int ((own_at y0 y1 y2 y3 y4 y5 i) &&& (255 : Int32))), .val (.int (2 : Int32)), .val (.int (128 : Int32)), .val (.int (191 : Int32)), .val (.int ((own_at y0 y1 y2 y3 y4 y5 (i + (1 : Int32))) &&& (255 : Int32))), s9, s10] []))
          refine own_go (fun _ hr => XS.iload X0.here hx rfl (hb hby own_d_prog_68_method_11_code_209) rfl (XS.iload X0.here hx rfl (hb hby own_d_prog_68_method_11_code_211) rfl hr)) ?_
          show own_Go p e below _ (s₁.setTop (mkF m 213 #[.val (.ref a), .val (.int fr0), .val (.int to0), .val (.int ((i + (1 : Int32)) + (1 : Int32))), .val (.int ((own_at y0 y1 y2 y3 y4 y5 i) &&& (255 : Int32))), .val (.int (2 : Int32)), .val (.int (128 : Int32)), .val (.int (191 : Int32)), .val (.int ((own_at y0 y1 y2 y3 y4 y5 (i + (1 : Int32))) &&& (255 : Int32))), s9, s10] [(.int (191 : Int32)), (.int ((own_at y0 y1 y2 y3 y4 y5 (i + (1 : Int32))) &&& (255 : Int32)))]))
          rcases Classical.em ((191 : Int32) < ((own_at y0 y1 y2 y3 y4 y5 (i + (1 : Int32))) &&& (255 : Int32))) with c50 | c50
          · skip
            refine own_go (fun _ hr => XS.icmpNo X0.here hx rfl (hb hby own_d_prog_68_method_11_code_213) rfl (tlt c50).2.2.2 hr) ?_
            show own_Go p e below _ (s₁.setTop (mkF m 216 #[.val (.ref a), .val (.int fr0), .val (.int to0), .val (.int ((i + (1 : Int32)) + (1 : Int32))), .val (.int ((own_at y0 y1 y2 y3 y4 y5 i) &&& (255 : Int32))), .val (.int (2 : Int32)), .val (.int (128 : Int32)), .val (.int (191 : Int32)), .val (.int ((own_at y0 y1 y2 y3 y4 y5 (i + (1 : Int32))) &&& (255 : Int32))), s9, s10] []))
            refine own_go (fun _ hr => XS.iconst X0.here hx rfl (hb hby own_d_prog_68_method_11_code_216) hr) ?_
            show own_Go p e below _ (s₁.setTop (mkF m 217 #[.val (.ref a), .val (.int fr0), .val (.int to0), .val (.int ((i + (1 : Int32)) + (1 : Int32))), .val (.int ((own_at y0 y1 y2 y3 y4 y5 i) &&& (255 : Int32))), .val (.int (2 : Int32)), .val (.int (128 : Int32)), .val (.int (191 : Int32)), .val (.int ((own_at y0 y1 y2 y3 y4 y5 (i + (1 : Int32))) &&& (255 : Int32))), s9, s10] [(.int (0 : Int32))]))
            have ht : own_turn y0 y1 y2 y3 y4 y5 i to0 = -1 := by unfold own_turn; rw [if_neg c2, if_neg c3, if_pos c6, if_neg c8, if_neg c35, if_neg c42, if_neg c48, if_neg c49, if_pos c50]
            obtain ⟨k', rfl⟩ : ∃ k', k = k' + 1 := ⟨k - 1, by have q := c1; rw [Int32.lt_iff_toInt_lt] at q; omega⟩
            exact own_retN X0 hx hlk Bd.returns (t := .boolean) (by simp) (hb hby own_d_prog_68_method_11_code_217) (by decide) (by decide) ⟨(congrArg (fun q => some (Value.int q)) (show (0 : Int32) = own_wf y0 y1 y2 y3 y4 y5 to0 6 fr0 from ((own_wf_bad y0 y1 y2 y3 y4 y5 to0 k' i c1 ht)).symm.trans hR)), N0, e0⟩
          refine own_go (fun _ hr => XS.icmpYes X0.here hx rfl (pc0 := 213) (pc' := 218) rfl (hb hby own_d_prog_68_method_11_code_213) rfl (flt c50).2.2.2 (by decide) (by decide) hr) ?_
          show own_Go p e below _ (s₁.setTop (mkF m 218 #[.val (.ref a), .val (.int fr0), .val (.int to0), .val (.int ((i + (1 : Int32)) + (1 : Int32))), .val (.int ((own_at y0 y1 y2 y3 y4 y5 i) &&& (255 : Int32))), .val (.int (2 : Int32)), .val (.int (128 : Int32)), .val (.int (191 : Int32)), .val (.int ((own_at y0 y1 y2 y3 y4 y5 (i + (1 : Int32))) &&& (255 : Int32))), s9, s10] []))
          refine own_go (fun _ hr => XS.iconst X0.here hx rfl (hb hby own_d_prog_68_method_11_code_218) (XS.istoreS X0.here hx rfl (hb hby own_d_prog_68_method_11_code_219) rfl rfl o9 (XS.iload X0.here hx rfl (hb hby own_d_prog_68_method_11_code_221) rfl (XS.iload X0.here hx rfl (hb hby own_d_prog_68_method_11_code_223) rfl (XS.icmpNo X0.here hx rfl (hb hby own_d_prog_68_method_11_code_225) rfl (tlt (by decide)).2.1 (XS.aloadN X0.here hx rfl (hb hby own_d_prog_68_method_11_code_228) rfl rfl (XS.iloadN X0.here hx rfl (hb hby own_d_prog_68_method_11_code_229) rfl (XS.iinc X0.here hx rfl (hb hby own_d_prog_68_method_11_code_230) rfl (l' := #[.val (.ref a), .val (.int fr0), .val (.int to0), .val (.int (((i + (1 : Int32)) + (1 : Int32)) + (1 : Int32))), .val (.int ((own_at y0 y1 y2 y3 y4 y5 i) &&& (255 : Int32))), .val (.int (2 : Int32)), .val (.int (128 : Int32)), .val (.int (191 : Int32)), .val (.int ((own_at y0 y1 y2 y3 y4 y5 (i + (1 : Int32))) &&& (255 : Int32))), .val (.int (1 : Int32)), s10]) rfl (own_baload X0 hx hZ e0 V ((i + (1 : Int32)) + (1 : Int32)) (.int (own_at y0 y1 y2 y3 y4 y5 ((i + (1 : Int32)) + (1 : Int32)))) (own_a2 i ▸ own_tin (k := 2) h1 c1 hto c48 (by decide)) (own_get y0 y1 y2 y3 y4 y5 _ (own_a2 i ▸ own_tin (k := 2) h1 c1 hto c48 (by decide))) rfl rfl (hb hby own_d_prog_68_method_11_code_233) (XS.sipush X0.here hx rfl (hb hby own_d_prog_68_method_11_code_234) hr)))))))))) ?_
          show own_Go p e below _ (s₁.setTop (mkF m 237 #[.val (.ref a), .val (.int fr0), .val (.int to0), .val (.int (((i + (1 : Int32)) + (1 : Int32)) + (1 : Int32))), .val (.int ((own_at y0 y1 y2 y3 y4 y5 i) &&& (255 : Int32))), .val (.int (2 : Int32)), .val (.int (128 : Int32)), .val (.int (191 : Int32)), .val (.int ((own_at y0 y1 y2 y3 y4 y5 (i + (1 : Int32))) &&& (255 : Int32))), .val (.int (1 : Int32)), s10] [(.int (255 : Int32)), (.int (own_at y0 y1 y2 y3 y4 y5 ((i + (1 : Int32)) + (1 : Int32))))]))
          refine own_go (fun _ hr => XS.iand X0.here hx rfl (hb hby own_d_prog_68_method_11_code_237) rfl (XS.istoreS X0.here hx rfl (hb hby own_d_prog_68_method_11_code_238) rfl rfl o10 (XS.iload X0.here hx rfl (hb hby own_d_prog_68_method_11_code_240) rfl (XS.sipush X0.here hx rfl (hb hby own_d_prog_68_method_11_code_242) hr)))) ?_
          show own_Go p e below _ (s₁.setTop (mkF m 245 #[.val (.ref a), .val (.int fr0), .val (.int to0), .val (.int (((i + (1 : Int32)) + (1 : Int32)) + (1 : Int32))), .val (.int ((own_at y0 y1 y2 y3 y4 y5 i) &&& (255 : Int32))), .val (.int (2 : Int32)), .val (.int (128 : Int32)), .val (.int (191 : Int32)), .val (.int ((own_at y0 y1 y2 y3 y4 y5 (i + (1 : Int32))) &&& (255 : Int32))), .val (.int (1 : Int32)), .val (.int ((own_at y0 y1 y2 y3 y4 y5 ((i + (1 : Int32)) + (1 : Int32))) &&& (255 : Int32)))] [(.int (128 : Int32)), (.int ((own_at y0 y1 y2 y3 y4 y5 ((i + (1 : Int32)) + (1 : Int32))) &&& (255 : Int32)))]))
          rcases Classical.em (((own_at y0 y1 y2 y3 y4 y5 ((i + (1 : Int32)) + (1 : Int32))) &&& (255 : Int32)) < (128 : Int32)) with c51 | c51
          · skip
            refine own_go (fun _ hr => XS.icmpYes X0.here hx rfl (pc0 := 245) (pc' := 256) rfl (hb hby own_d_prog_68_method_11_code_245) rfl (tlt c51).1 (by decide) (by decide) hr) ?_
            show own_Go p e below _ (s₁.setTop (mkF m 256 #[.val (.ref a), .val (.int fr0), .val (.int to0), .val (.int (((i + (1 : Int32)) + (1 : Int32)) + (1 : Int32))), .val (.int ((own_at y0 y1 y2 y3 y4 y5 i) &&& (255 : Int32))), .val (.int (2 : Int32)), .val (.int (128 : Int32)), .val (.int (191 : Int32)), .val (.int ((own_at y0 y1 y2 y3 y4 y5 (i + (1 : Int32))) &&& (255 : Int32))), .val (.int (1 : Int32)), .val (.int ((own_at y0 y1 y2 y3 y4 y5 ((i + (1 : Int32)) + (1 : Int32))) &&& (255 : Int32)))] []))
            refine own_go (fun _ hr => XS.iconst X0.here hx rfl (hb hby own_d_prog_68_method_11_code_256) hr) ?_
            show own_Go p e below _ (s₁.setTop (mkF m 257 #[.val (.ref a), .val (.int fr0), .val (.int to0), .val (.int (((i + (1 : Int32)) + (1 : Int32)) + (1 : Int32))), .val (.int ((own_at y0 y1 y2 y3 y4 y5 i) &&& (255 : Int32))), .val (.int (2 : Int32)), .val (.int (128 : Int32)), .val (.int (191 : Int32)), .val (.int ((own_at y0 y1 y2 y3 y4 y5 (i + (1 : Int32))) &&& (255 : Int32))), .val (.int (1 : Int32)), .val (.int ((own_at y0 y1 y2 y3 y4 y5 ((i + (1 : Int32)) + (1 : Int32))) &&& (255 : Int32)))] [(.int (0 : Int32))]))
            have ht : own_turn y0 y1 y2 y3 y4 y5 i to0 = -1 := by unfold own_turn; rw [if_neg c2, if_neg c3, if_pos c6, if_neg c8, if_neg c35, if_neg c42, if_neg c48, if_neg c49, if_neg c50, if_pos c51]
            obtain ⟨k', rfl⟩ : ∃ k', k = k' + 1 := ⟨k - 1, by have q := c1; rw [Int32.lt_iff_toInt_lt] at q; omega⟩
            exact own_retN X0 hx hlk Bd.returns (t := .boolean) (by simp) (hb hby own_d_prog_68_method_11_code_257) (by decide) (by decide) ⟨(congrArg (fun q => some (Value.int q)) (show (0 : Int32) = own_wf y0 y1 y2 y3 y4 y5 to0 6 fr0 from ((own_wf_bad y0 y1 y2 y3 y4 y5 to0 k' i c1 ht)).symm.trans hR)), N0, e0⟩
          refine own_go (fun _ hr => XS.icmpNo X0.here hx rfl (hb hby own_d_prog_68_method_11_code_245) rfl (flt c51).1 hr) ?_
          show own_Go p e below _ (s₁.setTop (mkF m 248 #[.val (.ref a), .val (.int fr0), .val (.int to0), .val (.int (((i + (1 : Int32)) + (1 : Int32)) + (1 : Int32))), .val (.int ((own_at y0 y1 y2 y3 y4 y5 i) &&& (255 : Int32))), .val (.int (2 : Int32)), .val (.int (128 : Int32)), .val (.int (191 : Int32)), .val (.int ((own_at y0 y1 y2 y3 y4 y5 (i + (1 : Int32))) &&& (255 : Int32))), .val (.int (1 : Int32)), .val (.int ((own_at y0 y1 y2 y3 y4 y5 ((i + (1 : Int32)) + (1 : Int32))) &&& (255 : Int32)))] []))
          refine own_go (fun _ hr => XS.iload X0.here hx rfl (hb hby own_d_prog_68_method_11_code_248) rfl (XS.sipush X0.here hx rfl (hb hby own_d_prog_68_method_11_code_250) hr)) ?_
          show own_Go p e below _ (s₁.setTop (mkF m 253 #[.val (.ref a), .val (.int fr0), .val (.int to0), .val (.int (((i + (1 : Int32)) + (1 : Int32)) + (1 : Int32))), .val (.int ((own_at y0 y1 y2 y3 y4 y5 i) &&& (255 : Int32))), .val (.int (2 : Int32)), .val (.int (128 : Int32)), .val (.int (191 : Int32)), .val (.int ((own_at y0 y1 y2 y3 y4 y5 (i + (1 : Int32))) &&& (255 : Int32))), .val (.int (1 : Int32)), .val (.int ((own_at y0 y1 y2 y3 y4 y5 ((i + (1 : Int32)) + (1 : Int32))) &&& (255 : Int32)))] [(.int (191 : Int32)), (.int ((own_at y0 y1 y2 y3 y4 y5 ((i + (1 : Int32)) + (1 : Int32))) &&& (255 : Int32)))]))
          rcases Classical.em ((191 : Int32) < ((own_at y0 y1 y2 y3 y4 y5 ((i + (1 : Int32)) + (1 : Int32))) &&& (255 : Int32))) with c52 | c52
          · skip
            refine own_go (fun _ hr => XS.icmpNo X0.here hx rfl (hb hby own_d_prog_68_method_11_code_253) rfl (tlt c52).2.2.2 hr) ?_
            show own_Go p e below _ (s₁.setTop (mkF m 256 #[.val (.ref a), .val (.int fr0), .val (.int to0), .val (.int (((i + (1 : Int32)) + (1 : Int32)) + (1 : Int32))), .val (.int ((own_at y0 y1 y2 y3 y4 y5 i) &&& (255 : Int32))), .val (.int (2 : Int32)), .val (.int (128 : Int32)), .val (.int (191 : Int32)), .val (.int ((own_at y0 y1 y2 y3 y4 y5 (i + (1 : Int32))) &&& (255 : Int32))), .val (.int (1 : Int32)), .val (.int ((own_at y0 y1 y2 y3 y4 y5 ((i + (1 : Int32)) + (1 : Int32))) &&& (255 : Int32)))] []))
            refine own_go (fun _ hr => XS.iconst X0.here hx rfl (hb hby own_d_prog_68_method_11_code_256) hr) ?_
            show own_Go p e below _ (s₁.setTop (mkF m 257 #[.val (.ref a), .val (.int fr0), .val (.int to0), .val (.int (((i + (1 : Int32)) + (1 : Int32)) + (1 : Int32))), .val (.int ((own_at y0 y1 y2 y3 y4 y5 i) &&& (255 : Int32))), .val (.int (2 : Int32)), .val (.int (128 : Int32)), .val (.int (191 : Int32)), .val (.int ((own_at y0 y1 y2 y3 y4 y5 (i + (1 : Int32))) &&& (255 : Int32))), .val (.int (1 : Int32)), .val (.int ((own_at y0 y1 y2 y3 y4 y5 ((i + (1 : Int32)) + (1 : Int32))) &&& (255 : Int32)))] [(.int (0 : Int32))]))
            have ht : own_turn y0 y1 y2 y3 y4 y5 i to0 = -1 := by unfold own_turn; rw [if_neg c2, if_neg c3, if_pos c6, if_neg c8, if_neg c35, if_neg c42, if_neg c48, if_neg c49, if_neg c50, if_neg c51, if_pos c52]
            obtain ⟨k', rfl⟩ : ∃ k', k = k' + 1 := ⟨k - 1, by have q := c1; rw [Int32.lt_iff_toInt_lt] at q; omega⟩
            exact own_retN X0 hx hlk Bd.returns (t := .boolean) (by simp) (hb hby own_d_prog_68_method_11_code_257) (by decide) (by decide) ⟨(congrArg (fun q => some (Value.int q)) (show (0 : Int32) = own_wf y0 y1 y2 y3 y4 y5 to0 6 fr0 from ((own_wf_bad y0 y1 y2 y3 y4 y5 to0 k' i c1 ht)).symm.trans hR)), N0, e0⟩
          refine own_go (fun _ hr => XS.icmpYes X0.here hx rfl (pc0 := 253) (pc' := 258) rfl (hb hby own_d_prog_68_method_11_code_253) rfl (flt c52).2.2.2 (by decide) (by decide) hr) ?_
          show own_Go p e below _ (s₁.setTop (mkF m 258 #[.val (.ref a), .val (.int fr0), .val (.int to0), .val (.int (((i + (1 : Int32)) + (1 : Int32)) + (1 : Int32))), .val (.int ((own_at y0 y1 y2 y3 y4 y5 i) &&& (255 : Int32))), .val (.int (2 : Int32)), .val (.int (128 : Int32)), .val (.int (191 : Int32)), .val (.int ((own_at y0 y1 y2 y3 y4 y5 (i + (1 : Int32))) &&& (255 : Int32))), .val (.int (1 : Int32)), .val (.int ((own_at y0 y1 y2 y3 y4 y5 ((i + (1 : Int32)) + (1 : Int32))) &&& (255 : Int32)))] []))
          refine own_go (fun _ hr => XS.iinc X0.here hx rfl (hb hby own_d_prog_68_method_11_code_258) rfl (l' := #[.val (.ref a), .val (.int fr0), .val (.int to0), .val (.int (((i + (1 : Int32)) + (1 : Int32)) + (1 : Int32))), .val (.int ((own_at y0 y1 y2 y3 y4 y5 i) &&& (255 : Int32))), .val (.int (2 : Int32)), .val (.int (128 : Int32)), .val (.int (191 : Int32)), .val (.int ((own_at y0 y1 y2 y3 y4 y5 (i + (1 : Int32))) &&& (255 : Int32))), .val (.int (2 : Int32)), .val (.int ((own_at y0 y1 y2 y3 y4 y5 ((i + (1 : Int32)) + (1 : Int32))) &&& (255 : Int32)))]) rfl (XS.goto X0.here hx rfl (pc0 := 261) (pc' := 221) rfl (hb hby own_d_prog_68_method_11_code_261) (by decide) (by decide) (XS.iload X0.here hx rfl (hb hby own_d_prog_68_method_11_code_221) rfl (XS.iload X0.here hx rfl (hb hby own_d_prog_68_method_11_code_223) rfl (XS.icmpYes X0.here hx rfl (pc0 := 225) (pc' := 264) rfl (hb hby own_d_prog_68_method_11_code_225) rfl (flt (by decide)).2.1 (by decide) (by decide) (XS.goto X0.here hx rfl (pc0 := 264) (pc' := 2) rfl (hb hby own_d_prog_68_method_11_code_264) (by decide) (by decide) hr)))))) ?_
          show own_Go p e below _ (s₁.setTop (mkF m 2 #[.val (.ref a), .val (.int fr0), .val (.int to0), .val (.int (((i + (1 : Int32)) + (1 : Int32)) + (1 : Int32))), .val (.int ((own_at y0 y1 y2 y3 y4 y5 i) &&& (255 : Int32))), .val (.int (2 : Int32)), .val (.int (128 : Int32)), .val (.int (191 : Int32)), .val (.int ((own_at y0 y1 y2 y3 y4 y5 (i + (1 : Int32))) &&& (255 : Int32))), .val (.int (2 : Int32)), .val (.int ((own_at y0 y1 y2 y3 y4 y5 ((i + (1 : Int32)) + (1 : Int32))) &&& (255 : Int32)))] []))
          have ht : own_turn y0 y1 y2 y3 y4 y5 i to0 = (((i + (1 : Int32)) + (1 : Int32)) + (1 : Int32)) := by unfold own_turn; rw [if_neg c2, if_neg c3, if_pos c6, if_neg c8, if_neg c35, if_neg c42, if_neg c48, if_neg c49, if_neg c50, if_neg c51, if_neg c52]
          obtain ⟨k', rfl⟩ : ∃ k', k = k' + 1 := ⟨k - 1, by have q := c1; rw [Int32.lt_iff_toInt_lt] at q; omega⟩
          have hb : i.toInt < ((((i + (1 : Int32)) + (1 : Int32)) + (1 : Int32))).toInt ∧ ((((i + (1 : Int32)) + (1 : Int32)) + (1 : Int32))).toInt ≤ to0.toInt ∧ ¬ (((i + (1 : Int32)) + (1 : Int32)) + (1 : Int32)) = -1 := by
            have q0 := rng32 i
            have q1 := c_iadd i (1 : Int32)
            have r1 := rng32 (i + (1 : Int32))
            have q2 := c_iadd (i + (1 : Int32)) (1 : Int32)
            have r2 := rng32 ((i + (1 : Int32)) + (1 : Int32))
            have q3 := c_iadd ((i + (1 : Int32)) + (1 : Int32)) (1 : Int32)
            have r3 := rng32 (((i + (1 : Int32)) + (1 : Int32)) + (1 : Int32))
            have q4 := rng32 to0
            have q5 := c_isub to0 (i + (1 : Int32))
            have r5 := rng32 (to0 - (i + (1 : Int32)))
            have p0 := c1
            have p1 := c48
            simp only [true_implies, Int32.lt_iff_toInt_lt, ← Int32.toInt_inj, Int32.reduceToInt, Int64.lt_iff_toInt_lt, ← Int64.toInt_inj, Int64.reduceToInt] at q0 q1 q2 q3 q4 q5 p0 p1 ⊢
            omega
          exact ih k' (Nat.lt_succ_self _) (((i + (1 : Int32)) + (1 : Int32)) + (1 : Int32)) _ _ _ _ _ _ _ (One.val rfl) (One.val rfl) (One.val rfl) (One.val rfl) (One.val rfl) (One.val rfl) (One.val rfl) (by omega) hb.2.1 (by omega) ((own_wf_on y0 y1 y2 y3 y4 y5 to0 k' i _ c1 ht hb.2.2).symm.trans hR)
        refine own_go (fun _ hr => XS.icmpNo X0.here hx rfl (hb hby own_d_prog_68_method_11_code_53) rfl (flt c6).2.2.1 hr) ?_
        show own_Go p e below _ (s₁.setTop (mkF m 56 #[.val (.ref a), .val (.int fr0), .val (.int to0), .val (.int (i + (1 : Int32))), .val (.int ((own_at y0 y1 y2 y3 y4 y5 i) &&& (255 : Int32))), s5, .val (.int (128 : Int32)), .val (.int (191 : Int32)), s8, s9, s10] []))
        refine own_go (fun _ hr => XS.iconst X0.here hx rfl (hb hby own_d_prog_68_method_11_code_56) (XS.istoreS X0.here hx rfl (hb hby own_d_prog_68_method_11_code_57) rfl rfl o5 (XS.goto X0.here hx rfl (pc0 := 59) (pc' := 180) rfl (hb hby own_d_prog_68_method_11_code_59) (by decide) (by decide) (XS.iloadN X0.here hx rfl (hb hby own_d_prog_68_method_11_code_180) rfl (XS.iloadN X0.here hx rfl (hb hby own_d_prog_68_method_11_code_181) rfl (XS.isub X0.here hx rfl (hb hby own_d_prog_68_method_11_code_182) rfl (XS.iload X0.here hx rfl (hb hby own_d_prog_68_method_11_code_183) rfl hr))))))) ?_
        show own_Go p e below _ (s₁.setTop (mkF m 185 #[.val (.ref a), .val (.int fr0), .val (.int to0), .val (.int (i + (1 : Int32))), .val (.int ((own_at y0 y1 y2 y3 y4 y5 i) &&& (255 : Int32))), .val (.int (1 : Int32)), .val (.int (128 : Int32)), .val (.int (191 : Int32)), s8, s9, s10] [(.int (1 : Int32)), (.int (to0 - (i + (1 : Int32))))]))
        rcases Classical.em ((to0 - (i + (1 : Int32))) < (1 : Int32)) with c53 | c53
        · skip
          refine own_go (fun _ hr => XS.icmpNo X0.here hx rfl (hb hby own_d_prog_68_method_11_code_185) rfl (tlt c53).2.1 hr) ?_
          show own_Go p e below _ (s₁.setTop (mkF m 188 #[.val (.ref a), .val (.int fr0), .val (.int to0), .val (.int (i + (1 : Int32))), .val (.int ((own_at y0 y1 y2 y3 y4 y5 i) &&& (255 : Int32))), .val (.int (1 : Int32)), .val (.int (128 : Int32)), .val (.int (191 : Int32)), s8, s9, s10] []))
          refine own_go (fun _ hr => XS.iconst X0.here hx rfl (hb hby own_d_prog_68_method_11_code_188) hr) ?_
          show own_Go p e below _ (s₁.setTop (mkF m 189 #[.val (.ref a), .val (.int fr0), .val (.int to0), .val (.int (i + (1 : Int32))), .val (.int ((own_at y0 y1 y2 y3 y4 y5 i) &&& (255 : Int32))), .val (.int (1 : Int32)), .val (.int (128 : Int32)), .val (.int (191 : Int32)), s8, s9, s10] [(.int (0 : Int32))]))
          have ht : own_turn y0 y1 y2 y3 y4 y5 i to0 = -1 := by unfold own_turn; rw [if_neg c2, if_neg c3, if_neg c6, if_pos c53]
          obtain ⟨k', rfl⟩ : ∃ k', k = k' + 1 := ⟨k - 1, by have q := c1; rw [Int32.lt_iff_toInt_lt] at q; omega⟩
          exact own_retN X0 hx hlk Bd.returns (t := .boolean) (by simp) (hb hby own_d_prog_68_method_11_code_189) (by decide) (by decide) ⟨(congrArg (fun q => some (Value.int q)) (show (0 : Int32) = own_wf y0 y1 y2 y3 y4 y5 to0 6 fr0 from ((own_wf_bad y0 y1 y2 y3 y4 y5 to0 k' i c1 ht)).symm.trans hR)), N0, e0⟩
        refine own_go (fun _ hr => XS.icmpYes X0.here hx rfl (pc0 := 185) (pc' := 190) rfl (hb hby own_d_prog_68_method_11_code_185) rfl (flt c53).2.1 (by decide) (by decide) hr) ?_
        show own_Go p e below _ (s₁.setTop (mkF m 190 #[.val (.ref a), .val (.int fr0), .val (.int to0), .val (.int (i + (1 : Int32))), .val (.int ((own_at y0 y1 y2 y3 y4 y5 i) &&& (255 : Int32))), .val (.int (1 : Int32)), .val (.int (128 : Int32)), .val (.int (191 : Int32)), s8, s9, s10] []))
        refine own_go (fun _ hr => XS.aloadN X0.here hx rfl (hb hby own_d_prog_68_method_11_code_190) rfl rfl (XS.iloadN X0.here hx rfl (hb hby own_d_prog_68_method_11_code_191) rfl (XS.iinc X0.here hx rfl (hb hby own_d_prog_68_method_11_code_192) rfl (l' := #[.val (.ref a), .val (.int fr0), .val (.int to0), .val (.int ((i + (1 : Int32)) + (1 : Int32))), .val (.int ((own_at y0 y1 y2 y3 y4 y5 i) &&& (255 : Int32))), .val (.int (1 : Int32)), .val (.int (128 : Int32)), .val (.int (191 : Int32)), s8, s9, s10]) rfl (own_baload X0 hx hZ e0 V (i + (1 : Int32)) (.int (own_at y0 y1 y2 y3 y4 y5 (i + (1 : Int32)))) (own_tin h1 c1 hto c53 (by decide)) (own_get y0 y1 y2 y3 y4 y5 _ (own_tin h1 c1 hto c53 (by decide))) rfl rfl (hb hby own_d_prog_68_method_11_code_195) (XS.sipush X0.here hx rfl (hb hby own_d_prog_68_method_11_code_196) (XS.iand X0.here hx rfl (hb hby own_d_prog_68_method_11_code_199) rfl (XS.istoreS X0.here hx rfl (hb hby own_d_prog_68_method_11_code_200) rfl rfl o8 (XS.iload X0.here hx rfl (hb hby own_d_prog_68_method_11_code_202) rfl (XS.iload X0.here hx rfl (hb hby own_d_prog_68_method_11_code_204) rfl hr))))))))) ?_
        show own_Go p e below _ (s₁.setTop (mkF m 206 #[.val (.ref a), .val (.int fr0), .val (.int to0), .val (.int ((i + (1 : Int32)) + (1 : Int32))), .val (.int ((own_at y0 y1 y2 y3 y4 y5 i) &&& (255 : Int32))), .val (.int (1 : Int32)), .val (.int (128 : Int32)), .val (.int (191 : Int32)), .val (.int ((own_at y0 y1 y2 y3 y4 y5 (i + (1 : Int32))) &&& (255 : Int32))), s9, s10] [(.int (128 : Int32)), (.int ((own_at y0 y1 y2 y3 y4 y5 (i + (1 : Int32))) &&& (255 : Int32)))]))
        rcases Classical.em (((own_at y0 y1 y2 y3 y4 y5 (i + (1 : Int32))) &&& (255 : Int32)) < (128 : Int32)) with c54 | c54
        · skip
          refine own_go (fun _ hr => XS.icmpYes X0.here hx rfl (pc0 := 206) (pc' := 216) rfl (hb hby own_d_prog_68_method_11_code_206) rfl (tlt c54).1 (by decide) (by decide) hr) ?_
          show own_Go p e below _ (s₁.setTop (mkF m 216 #[.val (.ref a), .val (.int fr0), .val (.int to0), .val (.int ((i + (1 : Int32)) + (1 : Int32))), .val (.int ((own_at y0 y1 y2 y3 y4 y5 i) &&& (255 : Int32))), .val (.int (1 : Int32)), .val (.int (128 : Int32)), .val (.int (191 : Int32)), .val (.int ((own_at y0 y1 y2 y3 y4 y5 (i + (1 : Int32))) &&& (255 : Int32))), s9, s10] []))
          refine own_go (fun _ hr => XS.iconst X0.here hx rfl (hb hby own_d_prog_68_method_11_code_216) hr) ?_
          show own_Go p e below _ (s₁.setTop (mkF m 217 #[.val (.ref a), .val (.int fr0), .val (.int to0), .val (.int ((i + (1 : Int32)) + (1 : Int32))), .val (.int ((own_at y0 y1 y2 y3 y4 y5 i) &&& (255 : Int32))), .val (.int (1 : Int32)), .val (.int (128 : Int32)), .val (.int (191 : Int32)), .val (.int ((own_at y0 y1 y2 y3 y4 y5 (i + (1 : Int32))) &&& (255 : Int32))), s9, s10] [(.int (0 : Int32))]))
          have ht : own_turn y0 y1 y2 y3 y4 y5 i to0 = -1 := by unfold own_turn; rw [if_neg c2, if_neg c3, if_neg c6, if_neg c53, if_pos c54]
          obtain ⟨k', rfl⟩ : ∃ k', k = k' + 1 := ⟨k - 1, by have q := c1; rw [Int32.lt_iff_toInt_lt] at q; omega⟩
          exact own_retN X0 hx hlk Bd.returns (t := .boolean) (by simp) (hb hby own_d_prog_68_method_11_code_217) (by decide) (by decide) ⟨(congrArg (fun q => some (Value.int q)) (show (0 : Int32) = own_wf y0 y1 y2 y3 y4 y5 to0 6 fr0 from ((own_wf_bad y0 y1 y2 y3 y4 y5 to0 k' i c1 ht)).symm.trans hR)), N0, e0⟩
        refine own_go (fun _ hr => XS.icmpNo X0.here hx rfl (hb hby own_d_prog_68_method_11_code_206) rfl (flt c54).1 hr) ?_
        show own_Go p e below _ (s₁.setTop (mkF m 209 #[.val (.ref a), .val (.int fr0), .val (.int to0), .val (.int ((i + (1 : Int32)) + (1 : Int32))), .val (.int ((own_at y0 y1 y2 y3 y4 y5 i) &&& (255 : Int32))), .val (.int (1 : Int32)), .val (.int (128 : Int32)), .val (.int (191 : Int32)), .val (.int ((own_at y0 y1 y2 y3 y4 y5 (i + (1 : Int32))) &&& (255 : Int32))), s9, s10] []))
        refine own_go (fun _ hr => XS.iload X0.here hx rfl (hb hby own_d_prog_68_method_11_code_209) rfl (XS.iload X0.here hx rfl (hb hby own_d_prog_68_method_11_code_211) rfl hr)) ?_
        show own_Go p e below _ (s₁.setTop (mkF m 213 #[.val (.ref a), .val (.int fr0), .val (.int to0), .val (.int ((i + (1 : Int32)) + (1 : Int32))), .val (.int ((own_at y0 y1 y2 y3 y4 y5 i) &&& (255 : Int32))), .val (.int (1 : Int32)), .val (.int (128 : Int32)), .val (.int (191 : Int32)), .val (.int ((own_at y0 y1 y2 y3 y4 y5 (i + (1 : Int32))) &&& (255 : Int32))), s9, s10] [(.int (191 : Int32)), (.int ((own_at y0 y1 y2 y3 y4 y5 (i + (1 : Int32))) &&& (255 : Int32)))]))
        rcases Classical.em ((191 : Int32) < ((own_at y0 y1 y2 y3 y4 y5 (i + (1 : Int32))) &&& (255 : Int32))) with c55 | c55
        · skip
          refine own_go (fun _ hr => XS.icmpNo X0.here hx rfl (hb hby own_d_prog_68_method_11_code_213) rfl (tlt c55).2.2.2 hr) ?_
          show own_Go p e below _ (s₁.setTop (mkF m 216 #[.val (.ref a), .val (.int fr0), .val (.int to0), .val (.int ((i + (1 : Int32)) + (1 : Int32))), .val (.int ((own_at y0 y1 y2 y3 y4 y5 i) &&& (255 : Int32))), .val (.int (1 : Int32)), .val (.int (128 : Int32)), .val (.int (191 : Int32)), .val (.int ((own_at y0 y1 y2 y3 y4 y5 (i + (1 : Int32))) &&& (255 : Int32))), s9, s10] []))
          refine own_go (fun _ hr => XS.iconst X0.here hx rfl (hb hby own_d_prog_68_method_11_code_216) hr) ?_
          show own_Go p e below _ (s₁.setTop (mkF m 217 #[.val (.ref a), .val (.int fr0), .val (.int to0), .val (.int ((i + (1 : Int32)) + (1 : Int32))), .val (.int ((own_at y0 y1 y2 y3 y4 y5 i) &&& (255 : Int32))), .val (.int (1 : Int32)), .val (.int (128 : Int32)), .val (.int (191 : Int32)), .val (.int ((own_at y0 y1 y2 y3 y4 y5 (i + (1 : Int32))) &&& (255 : Int32))), s9, s10] [(.int (0 : Int32))]))
          have ht : own_turn y0 y1 y2 y3 y4 y5 i to0 = -1 := by unfold own_turn; rw [if_neg c2, if_neg c3, if_neg c6, if_neg c53, if_neg c54, if_pos c55]
          obtain ⟨k', rfl⟩ : ∃ k', k = k' + 1 := ⟨k - 1, by have q := c1; rw [Int32.lt_iff_toInt_lt] at q; omega⟩
          exact own_retN X0 hx hlk Bd.returns (t := .boolean) (by simp) (hb hby own_d_prog_68_method_11_code_217) (by decide) (by decide) ⟨(congrArg (fun q => some (Value.int q)) (show (0 : Int32) = own_wf y0 y1 y2 y3 y4 y5 to0 6 fr0 from ((own_wf_bad y0 y1 y2 y3 y4 y5 to0 k' i c1 ht)).symm.trans hR)), N0, e0⟩
        refine own_go (fun _ hr => XS.icmpYes X0.here hx rfl (pc0 := 213) (pc' := 218) rfl (hb hby own_d_prog_68_method_11_code_213) rfl (flt c55).2.2.2 (by decide) (by decide) hr) ?_
        show own_Go p e below _ (s₁.setTop (mkF m 218 #[.val (.ref a), .val (.int fr0), .val (.int to0), .val (.int ((i + (1 : Int32)) + (1 : Int32))), .val (.int ((own_at y0 y1 y2 y3 y4 y5 i) &&& (255 : Int32))), .val (.int (1 : Int32)), .val (.int (128 : Int32)), .val (.int (191 : Int32)), .val (.int ((own_at y0 y1 y2 y3 y4 y5 (i + (1 : Int32))) &&& (255 : Int32))), s9, s10] []))
        refine own_go (fun _ hr => XS.iconst X0.here hx rfl (hb hby own_d_prog_68_method_11_code_218) (XS.istoreS X0.here hx rfl (hb hby own_d_prog_68_method_11_code_219) rfl rfl o9 (XS.iload X0.here hx rfl (hb hby own_d_prog_68_method_11_code_221) rfl (XS.iload X0.here hx rfl (hb hby own_d_prog_68_method_11_code_223) rfl (XS.icmpYes X0.here hx rfl (pc0 := 225) (pc' := 264) rfl (hb hby own_d_prog_68_method_11_code_225) rfl (flt (by decide)).2.1 (by decide) (by decide) (XS.goto X0.here hx rfl (pc0 := 264) (pc' := 2) rfl (hb hby own_d_prog_68_method_11_code_264) (by decide) (by decide) hr)))))) ?_
        show own_Go p e below _ (s₁.setTop (mkF m 2 #[.val (.ref a), .val (.int fr0), .val (.int to0), .val (.int ((i + (1 : Int32)) + (1 : Int32))), .val (.int ((own_at y0 y1 y2 y3 y4 y5 i) &&& (255 : Int32))), .val (.int (1 : Int32)), .val (.int (128 : Int32)), .val (.int (191 : Int32)), .val (.int ((own_at y0 y1 y2 y3 y4 y5 (i + (1 : Int32))) &&& (255 : Int32))), .val (.int (1 : Int32)), s10] []))
        have ht : own_turn y0 y1 y2 y3 y4 y5 i to0 = ((i + (1 : Int32)) + (1 : Int32)) := by unfold own_turn; rw [if_neg c2, if_neg c3, if_neg c6, if_neg c53, if_neg c54, if_neg c55]
        obtain ⟨k', rfl⟩ : ∃ k', k = k' + 1 := ⟨k - 1, by have q := c1; rw [Int32.lt_iff_toInt_lt] at q; omega⟩
        have hb : i.toInt < (((i + (1 : Int32)) + (1 : Int32))).toInt ∧ (((i + (1 : Int32)) + (1 : Int32))).toInt ≤ to0.toInt ∧ ¬ ((i + (1 : Int32)) + (1 : Int32)) = -1 := by
          have q0 := rng32 i
          have q1 := c_iadd i (1 : Int32)
          have r1 := rng32 (i + (1 : Int32))
          have q2 := c_iadd (i + (1 : Int32)) (1 : Int32)
          have r2 := rng32 ((i + (1 : Int32)) + (1 : Int32))
          have q3 := rng32 to0
          have q4 := c_isub to0 (i + (1 : Int32))
          have r4 := rng32 (to0 - (i + (1 : Int32)))
          have p0 := c1
          have p1 := c53
          simp only [true_implies, Int32.lt_iff_toInt_lt, ← Int32.toInt_inj, Int32.reduceToInt, Int64.lt_iff_toInt_lt, ← Int64.toInt_inj, Int64.reduceToInt] at q0 q1 q2 q3 q4 p0 p1 ⊢
          omega
        exact ih k' (Nat.lt_succ_self _) ((i + (1 : Int32)) + (1 : Int32)) _ _ _ _ _ _ _ (One.val rfl) (One.val rfl) (One.val rfl) (One.val rfl) (One.val rfl) (One.val rfl) o10 (by omega) hb.2.1 (by omega) ((own_wf_on y0 y1 y2 y3 y4 y5 to0 k' i _ c1 ht hb.2.2).symm.trans hR)
      refine own_go (fun _ hr => XS.icmpYes X0.here hx rfl (pc0 := 4) (pc' := 267) rfl (hb hby own_d_prog_68_method_11_code_4) rfl (flt c1).2.1 (by decide) (by decide) hr) ?_
      show own_Go p e below _ (s₁.setTop (mkF m 267 #[.val (.ref a), .val (.int fr0), .val (.int to0), .val (.int i), s4, s5, s6, s7, s8, s9, s10] []))
      refine own_go (fun _ hr => XS.iconst X0.here hx rfl (hb hby own_d_prog_68_method_11_code_267) hr) ?_
      show own_Go p e below _ (s₁.setTop (mkF m 268 #[.val (.ref a), .val (.int fr0), .val (.int to0), .val (.int i), s4, s5, s6, s7, s8, s9, s10] [(.int (1 : Int32))]))
      exact own_retN X0 hx hlk Bd.returns (t := .boolean) (by simp) (hb hby own_d_prog_68_method_11_code_268) (by decide) (by decide) ⟨(congrArg (fun q => some (Value.int q)) (show (1 : Int32) = own_wf y0 y1 y2 y3 y4 y5 to0 6 fr0 from ((own_wf_end y0 y1 y2 y3 y4 y5 to0 k i c1)).symm.trans hR)), N0, e0⟩
  exact loop 6 fr0 .unset .unset .unset .unset .unset .unset .unset One.u One.u One.u One.u One.u One.u One.u hfr.1 hfr.2 (by omega) rfl
theorem own_st8 (x : Int32) : nar .byte x.toInt8.toInt32 = x.toInt8.toInt32 := by show x.toInt8.toInt32.toInt8.toInt32 = _; simp
def own_spec (y0 y1 y2 y3 y4 y5 i to0 : Int32) : Int32 :=
  if (own_at y0 y1 y2 y3 y4 y5 i &&& 255).toInt < 128 then i + 1
  else if (194 ≤ (own_at y0 y1 y2 y3 y4 y5 i &&& 255).toInt ∧ (own_at y0 y1 y2 y3 y4 y5 i &&& 255).toInt ≤ 223) ∧ 2 ≤ to0.toInt - i.toInt ∧ (128 ≤ (own_at y0 y1 y2 y3 y4 y5 (i + 1) &&& 255).toInt ∧ (own_at y0 y1 y2 y3 y4 y5 (i + 1) &&& 255).toInt ≤ 191) then i + 2
  else if (224 ≤ (own_at y0 y1 y2 y3 y4 y5 i &&& 255).toInt ∧ (own_at y0 y1 y2 y3 y4 y5 i &&& 255).toInt ≤ 239) ∧ 3 ≤ to0.toInt - i.toInt ∧ ((own_at y0 y1 y2 y3 y4 y5 i &&& 255).toInt ≠ 224 ∨ 160 ≤ (own_at y0 y1 y2 y3 y4 y5 (i + 1) &&& 255).toInt) ∧ ((own_at y0 y1 y2 y3 y4 y5 i &&& 255).toInt ≠ 237 ∨ (own_at y0 y1 y2 y3 y4 y5 (i + 1) &&& 255).toInt ≤ 159) ∧ (128 ≤ (own_at y0 y1 y2 y3 y4 y5 (i + 1) &&& 255).toInt ∧ (own_at y0 y1 y2 y3 y4 y5 (i + 1) &&& 255).toInt ≤ 191) ∧ (128 ≤ (own_at y0 y1 y2 y3 y4 y5 (i + 2) &&& 255).toInt ∧ (own_at y0 y1 y2 y3 y4 y5 (i + 2) &&& 255).toInt ≤ 191) then i + 3
  else if (240 ≤ (own_at y0 y1 y2 y3 y4 y5 i &&& 255).toInt ∧ (own_at y0 y1 y2 y3 y4 y5 i &&& 255).toInt ≤ 244) ∧ 4 ≤ to0.toInt - i.toInt ∧ ((own_at y0 y1 y2 y3 y4 y5 i &&& 255).toInt ≠ 240 ∨ 144 ≤ (own_at y0 y1 y2 y3 y4 y5 (i + 1) &&& 255).toInt) ∧ ((own_at y0 y1 y2 y3 y4 y5 i &&& 255).toInt ≠ 244 ∨ (own_at y0 y1 y2 y3 y4 y5 (i + 1) &&& 255).toInt ≤ 143) ∧ (128 ≤ (own_at y0 y1 y2 y3 y4 y5 (i + 1) &&& 255).toInt ∧ (own_at y0 y1 y2 y3 y4 y5 (i + 1) &&& 255).toInt ≤ 191) ∧ (128 ≤ (own_at y0 y1 y2 y3 y4 y5 (i + 2) &&& 255).toInt ∧ (own_at y0 y1 y2 y3 y4 y5 (i + 2) &&& 255).toInt ≤ 191) ∧ (128 ≤ (own_at y0 y1 y2 y3 y4 y5 (i + 3) &&& 255).toInt ∧ (own_at y0 y1 y2 y3 y4 y5 (i + 3) &&& 255).toInt ≤ 191) then i + 4
  else -1
theorem own_b1 (i : Int32) : i + 1 + 1 = i + 2 := by rw [Int32.add_assoc]; rfl
theorem own_b2 (i : Int32) : i + 2 + 1 = i + 3 := by rw [Int32.add_assoc]; rfl
theorem own_b3 (i : Int32) : i + 3 + 1 = i + 4 := by rw [Int32.add_assoc]; rfl
set_option maxHeartbeats 40000000 in
theorem own_turn_spec (y0 y1 y2 y3 y4 y5 i to0 : Int32) (h0 : 0 ≤ i.toInt) (h1 : i < to0) (h2 : to0.toInt ≤ 6) : own_turn y0 y1 y2 y3 y4 y5 i to0 = own_spec y0 y1 y2 y3 y4 y5 i to0 := by
  have a0 := own_l (own_at y0 y1 y2 y3 y4 y5 i)
  have a1 := own_l (own_at y0 y1 y2 y3 y4 y5 (i + 1))
  have a2 := own_l (own_at y0 y1 y2 y3 y4 y5 (i + 2))
  have a3 := own_l (own_at y0 y1 y2 y3 y4 y5 (i + 3))
  have u0 := own_u _ a0
  have m31 := c_mask ((own_at y0 y1 y2 y3 y4 y5 i) &&& 255) 31 5 (by decide) (by decide)
  have m15 := c_mask ((own_at y0 y1 y2 y3 y4 y5 i) &&& 255) 15 4 (by decide) (by decide)
  have m7 := c_mask ((own_at y0 y1 y2 y3 y4 y5 i) &&& 255) 7 3 (by decide) (by decide)
  have z1 := c_isub to0 i
  have z2 := c_isub (to0 - i) 1
  have z3 := c_isub to0 (i + 1)
  have z4 := c_iadd i 1
  have w1 := rng32 (to0 - i)
  have w2 := rng32 (to0 - i - 1)
  have w3 := rng32 (to0 - (i + 1))
  have w4 := rng32 (i + 1)
  have hlt := h1
  simp only [Int32.lt_iff_toInt_lt, Int32.reduceToInt] at z1 z2 z3 z4 hlt
  unfold own_turn
  simp only [own_b1, own_b2, own_b3]
  by_cases c0 : ((own_at y0 y1 y2 y3 y4 y5 i) &&& 255) < 128
  · rw [if_pos c0]
    have pc0 := c0
    simp only [Int32.lt_iff_toInt_lt, ← Int32.toInt_inj, Int32.reduceToInt, u0.2.1, u0.2.2.1, u0.2.2.2] at pc0
    unfold own_spec
    rw [if_pos (by omega)]
  · rw [if_neg c0]
    by_cases c1 : ((own_at y0 y1 y2 y3 y4 y5 i) &&& 255) < 194
    · rw [if_pos c1]
      have pc0 := c0
      have pc1 := c1
      simp only [Int32.lt_iff_toInt_lt, ← Int32.toInt_inj, Int32.reduceToInt, u0.2.1, u0.2.2.1, u0.2.2.2] at pc0 pc1
      unfold own_spec
      rw [if_neg (by omega), if_neg (by omega), if_neg (by omega), if_neg (by omega)]
    · rw [if_neg c1]
      by_cases c2 : 223 < ((own_at y0 y1 y2 y3 y4 y5 i) &&& 255)
      · rw [if_pos c2]
        by_cases c3 : 239 < ((own_at y0 y1 y2 y3 y4 y5 i) &&& 255)
        · rw [if_pos c3]
          by_cases c4 : 244 < ((own_at y0 y1 y2 y3 y4 y5 i) &&& 255)
          · rw [if_pos c4]
            have pc0 := c0
            have pc1 := c1
            have pc2 := c2
            have pc3 := c3
            have pc4 := c4
            simp only [Int32.lt_iff_toInt_lt, ← Int32.toInt_inj, Int32.reduceToInt, u0.2.1, u0.2.2.1, u0.2.2.2] at pc0 pc1 pc2 pc3 pc4
            unfold own_spec
            rw [if_neg (by omega), if_neg (by omega), if_neg (by omega), if_neg (by omega)]
          · rw [if_neg c4]
            by_cases c5 : ((own_at y0 y1 y2 y3 y4 y5 i) &&& 255) = 240
            · rw [if_pos c5]
              by_cases c6 : (to0 - (i + 1)) < 3
              · rw [if_pos c6]
                have pc0 := c0
                have pc1 := c1
                have pc2 := c2
                have pc3 := c3
                have pc4 := c4
                have pc5 := c5
                have pc6 := c6
                simp only [Int32.lt_iff_toInt_lt, ← Int32.toInt_inj, Int32.reduceToInt, u0.2.1, u0.2.2.1, u0.2.2.2] at pc0 pc1 pc2 pc3 pc4 pc5 pc6
                unfold own_spec
                rw [if_neg (by omega), if_neg (by omega), if_neg (by omega), if_neg (by omega)]
              · rw [if_neg c6]
                by_cases c7 : ((own_at y0 y1 y2 y3 y4 y5 (i + 1)) &&& 255) < 144
                · rw [if_pos c7]
                  have pc0 := c0
                  have pc1 := c1
                  have pc2 := c2
                  have pc3 := c3
                  have pc4 := c4
                  have pc5 := c5
                  have pc6 := c6
                  have pc7 := c7
                  simp only [Int32.lt_iff_toInt_lt, ← Int32.toInt_inj, Int32.reduceToInt, u0.2.1, u0.2.2.1, u0.2.2.2] at pc0 pc1 pc2 pc3 pc4 pc5 pc6 pc7
                  unfold own_spec
                  rw [if_neg (by omega), if_neg (by omega), if_neg (by omega), if_neg (by omega)]
                · rw [if_neg c7]
                  by_cases c8 : 191 < ((own_at y0 y1 y2 y3 y4 y5 (i + 1)) &&& 255)
                  · rw [if_pos c8]
                    have pc0 := c0
                    have pc1 := c1
                    have pc2 := c2
                    have pc3 := c3
                    have pc4 := c4
                    have pc5 := c5
                    have pc6 := c6
                    have pc7 := c7
                    have pc8 := c8
                    simp only [Int32.lt_iff_toInt_lt, ← Int32.toInt_inj, Int32.reduceToInt, u0.2.1, u0.2.2.1, u0.2.2.2] at pc0 pc1 pc2 pc3 pc4 pc5 pc6 pc7 pc8
                    unfold own_spec
                    rw [if_neg (by omega), if_neg (by omega), if_neg (by omega), if_neg (by omega)]
                  · rw [if_neg c8]
                    by_cases c9 : ((own_at y0 y1 y2 y3 y4 y5 (i + 2)) &&& 255) < 128
                    · rw [if_pos c9]
                      have pc0 := c0
                      have pc1 := c1
                      have pc2 := c2
                      have pc3 := c3
                      have pc4 := c4
                      have pc5 := c5
                      have pc6 := c6
                      have pc7 := c7
                      have pc8 := c8
                      have pc9 := c9
                      simp only [Int32.lt_iff_toInt_lt, ← Int32.toInt_inj, Int32.reduceToInt, u0.2.1, u0.2.2.1, u0.2.2.2] at pc0 pc1 pc2 pc3 pc4 pc5 pc6 pc7 pc8 pc9
                      unfold own_spec
                      rw [if_neg (by omega), if_neg (by omega), if_neg (by omega), if_neg (by omega)]
                    · rw [if_neg c9]
                      by_cases c10 : 191 < ((own_at y0 y1 y2 y3 y4 y5 (i + 2)) &&& 255)
                      · rw [if_pos c10]
                        have pc0 := c0
                        have pc1 := c1
                        have pc2 := c2
                        have pc3 := c3
                        have pc4 := c4
                        have pc5 := c5
                        have pc6 := c6
                        have pc7 := c7
                        have pc8 := c8
                        have pc9 := c9
                        have pc10 := c10
                        simp only [Int32.lt_iff_toInt_lt, ← Int32.toInt_inj, Int32.reduceToInt, u0.2.1, u0.2.2.1, u0.2.2.2] at pc0 pc1 pc2 pc3 pc4 pc5 pc6 pc7 pc8 pc9 pc10
                        unfold own_spec
                        rw [if_neg (by omega), if_neg (by omega), if_neg (by omega), if_neg (by omega)]
                      · rw [if_neg c10]
                        by_cases c11 : ((own_at y0 y1 y2 y3 y4 y5 (i + 3)) &&& 255) < 128
                        · rw [if_pos c11]
                          have pc0 := c0
                          have pc1 := c1
                          have pc2 := c2
                          have pc3 := c3
                          have pc4 := c4
                          have pc5 := c5
                          have pc6 := c6
                          have pc7 := c7
                          have pc8 := c8
                          have pc9 := c9
                          have pc10 := c10
                          have pc11 := c11
                          simp only [Int32.lt_iff_toInt_lt, ← Int32.toInt_inj, Int32.reduceToInt, u0.2.1, u0.2.2.1, u0.2.2.2] at pc0 pc1 pc2 pc3 pc4 pc5 pc6 pc7 pc8 pc9 pc10 pc11
                          unfold own_spec
                          rw [if_neg (by omega), if_neg (by omega), if_neg (by omega), if_neg (by omega)]
                        · rw [if_neg c11]
                          by_cases c12 : 191 < ((own_at y0 y1 y2 y3 y4 y5 (i + 3)) &&& 255)
                          · rw [if_pos c12]
                            have pc0 := c0
                            have pc1 := c1
                            have pc2 := c2
                            have pc3 := c3
                            have pc4 := c4
                            have pc5 := c5
                            have pc6 := c6
                            have pc7 := c7
                            have pc8 := c8
                            have pc9 := c9
                            have pc10 := c10
                            have pc11 := c11
                            have pc12 := c12
                            simp only [Int32.lt_iff_toInt_lt, ← Int32.toInt_inj, Int32.reduceToInt, u0.2.1, u0.2.2.1, u0.2.2.2] at pc0 pc1 pc2 pc3 pc4 pc5 pc6 pc7 pc8 pc9 pc10 pc11 pc12
                            unfold own_spec
                            rw [if_neg (by omega), if_neg (by omega), if_neg (by omega), if_neg (by omega)]
                          · rw [if_neg c12]
                            have pc0 := c0
                            have pc1 := c1
                            have pc2 := c2
                            have pc3 := c3
                            have pc4 := c4
                            have pc5 := c5
                            have pc6 := c6
                            have pc7 := c7
                            have pc8 := c8
                            have pc9 := c9
                            have pc10 := c10
                            have pc11 := c11
                            have pc12 := c12
                            simp only [Int32.lt_iff_toInt_lt, ← Int32.toInt_inj, Int32.reduceToInt, u0.2.1, u0.2.2.1, u0.2.2.2] at pc0 pc1 pc2 pc3 pc4 pc5 pc6 pc7 pc8 pc9 pc10 pc11 pc12
                            unfold own_spec
                            rw [if_neg (by omega), if_neg (by omega), if_neg (by omega), if_pos (by omega)]
            · rw [if_neg c5]
              by_cases c6 : ((own_at y0 y1 y2 y3 y4 y5 i) &&& 255) = 244
              · rw [if_pos c6]
                by_cases c7 : (to0 - (i + 1)) < 3
                · rw [if_pos c7]
                  have pc0 := c0
                  have pc1 := c1
                  have pc2 := c2
                  have pc3 := c3
                  have pc4 := c4
                  have pc5 := c5
                  have pc6 := c6
                  have pc7 := c7
                  simp only [Int32.lt_iff_toInt_lt, ← Int32.toInt_inj, Int32.reduceToInt, u0.2.1, u0.2.2.1, u0.2.2.2] at pc0 pc1 pc2 pc3 pc4 pc5 pc6 pc7
                  unfold own_spec
                  rw [if_neg (by omega), if_neg (by omega), if_neg (by omega), if_neg (by omega)]
                · rw [if_neg c7]
                  by_cases c8 : ((own_at y0 y1 y2 y3 y4 y5 (i + 1)) &&& 255) < 128
                  · rw [if_pos c8]
                    have pc0 := c0
                    have pc1 := c1
                    have pc2 := c2
                    have pc3 := c3
                    have pc4 := c4
                    have pc5 := c5
                    have pc6 := c6
                    have pc7 := c7
                    have pc8 := c8
                    simp only [Int32.lt_iff_toInt_lt, ← Int32.toInt_inj, Int32.reduceToInt, u0.2.1, u0.2.2.1, u0.2.2.2] at pc0 pc1 pc2 pc3 pc4 pc5 pc6 pc7 pc8
                    unfold own_spec
                    rw [if_neg (by omega), if_neg (by omega), if_neg (by omega), if_neg (by omega)]
                  · rw [if_neg c8]
                    by_cases c9 : 143 < ((own_at y0 y1 y2 y3 y4 y5 (i + 1)) &&& 255)
                    · rw [if_pos c9]
                      have pc0 := c0
                      have pc1 := c1
                      have pc2 := c2
                      have pc3 := c3
                      have pc4 := c4
                      have pc5 := c5
                      have pc6 := c6
                      have pc7 := c7
                      have pc8 := c8
                      have pc9 := c9
                      simp only [Int32.lt_iff_toInt_lt, ← Int32.toInt_inj, Int32.reduceToInt, u0.2.1, u0.2.2.1, u0.2.2.2] at pc0 pc1 pc2 pc3 pc4 pc5 pc6 pc7 pc8 pc9
                      unfold own_spec
                      rw [if_neg (by omega), if_neg (by omega), if_neg (by omega), if_neg (by omega)]
                    · rw [if_neg c9]
                      by_cases c10 : ((own_at y0 y1 y2 y3 y4 y5 (i + 2)) &&& 255) < 128
                      · rw [if_pos c10]
                        have pc0 := c0
                        have pc1 := c1
                        have pc2 := c2
                        have pc3 := c3
                        have pc4 := c4
                        have pc5 := c5
                        have pc6 := c6
                        have pc7 := c7
                        have pc8 := c8
                        have pc9 := c9
                        have pc10 := c10
                        simp only [Int32.lt_iff_toInt_lt, ← Int32.toInt_inj, Int32.reduceToInt, u0.2.1, u0.2.2.1, u0.2.2.2] at pc0 pc1 pc2 pc3 pc4 pc5 pc6 pc7 pc8 pc9 pc10
                        unfold own_spec
                        rw [if_neg (by omega), if_neg (by omega), if_neg (by omega), if_neg (by omega)]
                      · rw [if_neg c10]
                        by_cases c11 : 191 < ((own_at y0 y1 y2 y3 y4 y5 (i + 2)) &&& 255)
                        · rw [if_pos c11]
                          have pc0 := c0
                          have pc1 := c1
                          have pc2 := c2
                          have pc3 := c3
                          have pc4 := c4
                          have pc5 := c5
                          have pc6 := c6
                          have pc7 := c7
                          have pc8 := c8
                          have pc9 := c9
                          have pc10 := c10
                          have pc11 := c11
                          simp only [Int32.lt_iff_toInt_lt, ← Int32.toInt_inj, Int32.reduceToInt, u0.2.1, u0.2.2.1, u0.2.2.2] at pc0 pc1 pc2 pc3 pc4 pc5 pc6 pc7 pc8 pc9 pc10 pc11
                          unfold own_spec
                          rw [if_neg (by omega), if_neg (by omega), if_neg (by omega), if_neg (by omega)]
                        · rw [if_neg c11]
                          by_cases c12 : ((own_at y0 y1 y2 y3 y4 y5 (i + 3)) &&& 255) < 128
                          · rw [if_pos c12]
                            have pc0 := c0
                            have pc1 := c1
                            have pc2 := c2
                            have pc3 := c3
                            have pc4 := c4
                            have pc5 := c5
                            have pc6 := c6
                            have pc7 := c7
                            have pc8 := c8
                            have pc9 := c9
                            have pc10 := c10
                            have pc11 := c11
                            have pc12 := c12
                            simp only [Int32.lt_iff_toInt_lt, ← Int32.toInt_inj, Int32.reduceToInt, u0.2.1, u0.2.2.1, u0.2.2.2] at pc0 pc1 pc2 pc3 pc4 pc5 pc6 pc7 pc8 pc9 pc10 pc11 pc12
                            unfold own_spec
                            rw [if_neg (by omega), if_neg (by omega), if_neg (by omega), if_neg (by omega)]
                          · rw [if_neg c12]
                            by_cases c13 : 191 < ((own_at y0 y1 y2 y3 y4 y5 (i + 3)) &&& 255)
                            · rw [if_pos c13]
                              have pc0 := c0
                              have pc1 := c1
                              have pc2 := c2
                              have pc3 := c3
                              have pc4 := c4
                              have pc5 := c5
                              have pc6 := c6
                              have pc7 := c7
                              have pc8 := c8
                              have pc9 := c9
                              have pc10 := c10
                              have pc11 := c11
                              have pc12 := c12
                              have pc13 := c13
                              simp only [Int32.lt_iff_toInt_lt, ← Int32.toInt_inj, Int32.reduceToInt, u0.2.1, u0.2.2.1, u0.2.2.2] at pc0 pc1 pc2 pc3 pc4 pc5 pc6 pc7 pc8 pc9 pc10 pc11 pc12 pc13
                              unfold own_spec
                              rw [if_neg (by omega), if_neg (by omega), if_neg (by omega), if_neg (by omega)]
                            · rw [if_neg c13]
                              have pc0 := c0
                              have pc1 := c1
                              have pc2 := c2
                              have pc3 := c3
                              have pc4 := c4
                              have pc5 := c5
                              have pc6 := c6
                              have pc7 := c7
                              have pc8 := c8
                              have pc9 := c9
                              have pc10 := c10
                              have pc11 := c11
                              have pc12 := c12
                              have pc13 := c13
                              simp only [Int32.lt_iff_toInt_lt, ← Int32.toInt_inj, Int32.reduceToInt, u0.2.1, u0.2.2.1, u0.2.2.2] at pc0 pc1 pc2 pc3 pc4 pc5 pc6 pc7 pc8 pc9 pc10 pc11 pc12 pc13
                              unfold own_spec
                              rw [if_neg (by omega), if_neg (by omega), if_neg (by omega), if_pos (by omega)]
              · rw [if_neg c6]
                by_cases c7 : (to0 - (i + 1)) < 3
                · rw [if_pos c7]
                  have pc0 := c0
                  have pc1 := c1
                  have pc2 := c2
                  have pc3 := c3
                  have pc4 := c4
                  have pc5 := c5
                  have pc6 := c6
                  have pc7 := c7
                  simp only [Int32.lt_iff_toInt_lt, ← Int32.toInt_inj, Int32.reduceToInt, u0.2.1, u0.2.2.1, u0.2.2.2] at pc0 pc1 pc2 pc3 pc4 pc5 pc6 pc7
                  unfold own_spec
                  rw [if_neg (by omega), if_neg (by omega), if_neg (by omega), if_neg (by omega)]
                · rw [if_neg c7]
                  by_cases c8 : ((own_at y0 y1 y2 y3 y4 y5 (i + 1)) &&& 255) < 128
                  · rw [if_pos c8]
                    have pc0 := c0
                    have pc1 := c1
                    have pc2 := c2
                    have pc3 := c3
                    have pc4 := c4
                    have pc5 := c5
                    have pc6 := c6
                    have pc7 := c7
                    have pc8 := c8
                    simp only [Int32.lt_iff_toInt_lt, ← Int32.toInt_inj, Int32.reduceToInt, u0.2.1, u0.2.2.1, u0.2.2.2] at pc0 pc1 pc2 pc3 pc4 pc5 pc6 pc7 pc8
                    unfold own_spec
                    rw [if_neg (by omega), if_neg (by omega), if_neg (by omega), if_neg (by omega)]
                  · rw [if_neg c8]
                    by_cases c9 : 191 < ((own_at y0 y1 y2 y3 y4 y5 (i + 1)) &&& 255)
                    · rw [if_pos c9]
                      have pc0 := c0
                      have pc1 := c1
                      have pc2 := c2
                      have pc3 := c3
                      have pc4 := c4
                      have pc5 := c5
                      have pc6 := c6
                      have pc7 := c7
                      have pc8 := c8
                      have pc9 := c9
                      simp only [Int32.lt_iff_toInt_lt, ← Int32.toInt_inj, Int32.reduceToInt, u0.2.1, u0.2.2.1, u0.2.2.2] at pc0 pc1 pc2 pc3 pc4 pc5 pc6 pc7 pc8 pc9
                      unfold own_spec
                      rw [if_neg (by omega), if_neg (by omega), if_neg (by omega), if_neg (by omega)]
                    · rw [if_neg c9]
                      by_cases c10 : ((own_at y0 y1 y2 y3 y4 y5 (i + 2)) &&& 255) < 128
                      · rw [if_pos c10]
                        have pc0 := c0
                        have pc1 := c1
                        have pc2 := c2
                        have pc3 := c3
                        have pc4 := c4
                        have pc5 := c5
                        have pc6 := c6
                        have pc7 := c7
                        have pc8 := c8
                        have pc9 := c9
                        have pc10 := c10
                        simp only [Int32.lt_iff_toInt_lt, ← Int32.toInt_inj, Int32.reduceToInt, u0.2.1, u0.2.2.1, u0.2.2.2] at pc0 pc1 pc2 pc3 pc4 pc5 pc6 pc7 pc8 pc9 pc10
                        unfold own_spec
                        rw [if_neg (by omega), if_neg (by omega), if_neg (by omega), if_neg (by omega)]
                      · rw [if_neg c10]
                        by_cases c11 : 191 < ((own_at y0 y1 y2 y3 y4 y5 (i + 2)) &&& 255)
                        · rw [if_pos c11]
                          have pc0 := c0
                          have pc1 := c1
                          have pc2 := c2
                          have pc3 := c3
                          have pc4 := c4
                          have pc5 := c5
                          have pc6 := c6
                          have pc7 := c7
                          have pc8 := c8
                          have pc9 := c9
                          have pc10 := c10
                          have pc11 := c11
                          simp only [Int32.lt_iff_toInt_lt, ← Int32.toInt_inj, Int32.reduceToInt, u0.2.1, u0.2.2.1, u0.2.2.2] at pc0 pc1 pc2 pc3 pc4 pc5 pc6 pc7 pc8 pc9 pc10 pc11
                          unfold own_spec
                          rw [if_neg (by omega), if_neg (by omega), if_neg (by omega), if_neg (by omega)]
                        · rw [if_neg c11]
                          by_cases c12 : ((own_at y0 y1 y2 y3 y4 y5 (i + 3)) &&& 255) < 128
                          · rw [if_pos c12]
                            have pc0 := c0
                            have pc1 := c1
                            have pc2 := c2
                            have pc3 := c3
                            have pc4 := c4
                            have pc5 := c5
                            have pc6 := c6
                            have pc7 := c7
                            have pc8 := c8
                            have pc9 := c9
                            have pc10 := c10
                            have pc11 := c11
                            have pc12 := c12
                            simp only [Int32.lt_iff_toInt_lt, ← Int32.toInt_inj, Int32.reduceToInt, u0.2.1, u0.2.2.1, u0.2.2.2] at pc0 pc1 pc2 pc3 pc4 pc5 pc6 pc7 pc8 pc9 pc10 pc11 pc12
                            unfold own_spec
                            rw [if_neg (by omega), if_neg (by omega), if_neg (by omega), if_neg (by omega)]
                          · rw [if_neg c12]
                            by_cases c13 : 191 < ((own_at y0 y1 y2 y3 y4 y5 (i + 3)) &&& 255)
                            · rw [if_pos c13]
                              have pc0 := c0
                              have pc1 := c1
                              have pc2 := c2
                              have pc3 := c3
                              have pc4 := c4
                              have pc5 := c5
                              have pc6 := c6
                              have pc7 := c7
                              have pc8 := c8
                              have pc9 := c9
                              have pc10 := c10
                              have pc11 := c11
                              have pc12 := c12
                              have pc13 := c13
                              simp only [Int32.lt_iff_toInt_lt, ← Int32.toInt_inj, Int32.reduceToInt, u0.2.1, u0.2.2.1, u0.2.2.2] at pc0 pc1 pc2 pc3 pc4 pc5 pc6 pc7 pc8 pc9 pc10 pc11 pc12 pc13
                              unfold own_spec
                              rw [if_neg (by omega), if_neg (by omega), if_neg (by omega), if_neg (by omega)]
                            · rw [if_neg c13]
                              have pc0 := c0
                              have pc1 := c1
                              have pc2 := c2
                              have pc3 := c3
                              have pc4 := c4
                              have pc5 := c5
                              have pc6 := c6
                              have pc7 := c7
                              have pc8 := c8
                              have pc9 := c9
                              have pc10 := c10
                              have pc11 := c11
                              have pc12 := c12
                              have pc13 := c13
                              simp only [Int32.lt_iff_toInt_lt, ← Int32.toInt_inj, Int32.reduceToInt, u0.2.1, u0.2.2.1, u0.2.2.2] at pc0 pc1 pc2 pc3 pc4 pc5 pc6 pc7 pc8 pc9 pc10 pc11 pc12 pc13
                              unfold own_spec
                              rw [if_neg (by omega), if_neg (by omega), if_neg (by omega), if_pos (by omega)]
        · rw [if_neg c3]
          by_cases c4 : ((own_at y0 y1 y2 y3 y4 y5 i) &&& 255) = 224
          · rw [if_pos c4]
            by_cases c5 : (to0 - (i + 1)) < 2
            · rw [if_pos c5]
              have pc0 := c0
              have pc1 := c1
              have pc2 := c2
              have pc3 := c3
              have pc4 := c4
              have pc5 := c5
              simp only [Int32.lt_iff_toInt_lt, ← Int32.toInt_inj, Int32.reduceToInt, u0.2.1, u0.2.2.1, u0.2.2.2] at pc0 pc1 pc2 pc3 pc4 pc5
              unfold own_spec
              rw [if_neg (by omega), if_neg (by omega), if_neg (by omega), if_neg (by omega)]
            · rw [if_neg c5]
              by_cases c6 : ((own_at y0 y1 y2 y3 y4 y5 (i + 1)) &&& 255) < 160
              · rw [if_pos c6]
                have pc0 := c0
                have pc1 := c1
                have pc2 := c2
                have pc3 := c3
                have pc4 := c4
                have pc5 := c5
                have pc6 := c6
                simp only [Int32.lt_iff_toInt_lt, ← Int32.toInt_inj, Int32.reduceToInt, u0.2.1, u0.2.2.1, u0.2.2.2] at pc0 pc1 pc2 pc3 pc4 pc5 pc6
                unfold own_spec
                rw [if_neg (by omega), if_neg (by omega), if_neg (by omega), if_neg (by omega)]
              · rw [if_neg c6]
                by_cases c7 : 191 < ((own_at y0 y1 y2 y3 y4 y5 (i + 1)) &&& 255)
                · rw [if_pos c7]
                  have pc0 := c0
                  have pc1 := c1
                  have pc2 := c2
                  have pc3 := c3
                  have pc4 := c4
                  have pc5 := c5
                  have pc6 := c6
                  have pc7 := c7
                  simp only [Int32.lt_iff_toInt_lt, ← Int32.toInt_inj, Int32.reduceToInt, u0.2.1, u0.2.2.1, u0.2.2.2] at pc0 pc1 pc2 pc3 pc4 pc5 pc6 pc7
                  unfold own_spec
                  rw [if_neg (by omega), if_neg (by omega), if_neg (by omega), if_neg (by omega)]
                · rw [if_neg c7]
                  by_cases c8 : ((own_at y0 y1 y2 y3 y4 y5 (i + 2)) &&& 255) < 128
                  · rw [if_pos c8]
                    have pc0 := c0
                    have pc1 := c1
                    have pc2 := c2
                    have pc3 := c3
                    have pc4 := c4
                    have pc5 := c5
                    have pc6 := c6
                    have pc7 := c7
                    have pc8 := c8
                    simp only [Int32.lt_iff_toInt_lt, ← Int32.toInt_inj, Int32.reduceToInt, u0.2.1, u0.2.2.1, u0.2.2.2] at pc0 pc1 pc2 pc3 pc4 pc5 pc6 pc7 pc8
                    unfold own_spec
                    rw [if_neg (by omega), if_neg (by omega), if_neg (by omega), if_neg (by omega)]
                  · rw [if_neg c8]
                    by_cases c9 : 191 < ((own_at y0 y1 y2 y3 y4 y5 (i + 2)) &&& 255)
                    · rw [if_pos c9]
                      have pc0 := c0
                      have pc1 := c1
                      have pc2 := c2
                      have pc3 := c3
                      have pc4 := c4
                      have pc5 := c5
                      have pc6 := c6
                      have pc7 := c7
                      have pc8 := c8
                      have pc9 := c9
                      simp only [Int32.lt_iff_toInt_lt, ← Int32.toInt_inj, Int32.reduceToInt, u0.2.1, u0.2.2.1, u0.2.2.2] at pc0 pc1 pc2 pc3 pc4 pc5 pc6 pc7 pc8 pc9
                      unfold own_spec
                      rw [if_neg (by omega), if_neg (by omega), if_neg (by omega), if_neg (by omega)]
                    · rw [if_neg c9]
                      have pc0 := c0
                      have pc1 := c1
                      have pc2 := c2
                      have pc3 := c3
                      have pc4 := c4
                      have pc5 := c5
                      have pc6 := c6
                      have pc7 := c7
                      have pc8 := c8
                      have pc9 := c9
                      simp only [Int32.lt_iff_toInt_lt, ← Int32.toInt_inj, Int32.reduceToInt, u0.2.1, u0.2.2.1, u0.2.2.2] at pc0 pc1 pc2 pc3 pc4 pc5 pc6 pc7 pc8 pc9
                      unfold own_spec
                      rw [if_neg (by omega), if_neg (by omega), if_pos (by omega)]
          · rw [if_neg c4]
            by_cases c5 : ((own_at y0 y1 y2 y3 y4 y5 i) &&& 255) = 237
            · rw [if_pos c5]
              by_cases c6 : (to0 - (i + 1)) < 2
              · rw [if_pos c6]
                have pc0 := c0
                have pc1 := c1
                have pc2 := c2
                have pc3 := c3
                have pc4 := c4
                have pc5 := c5
                have pc6 := c6
                simp only [Int32.lt_iff_toInt_lt, ← Int32.toInt_inj, Int32.reduceToInt, u0.2.1, u0.2.2.1, u0.2.2.2] at pc0 pc1 pc2 pc3 pc4 pc5 pc6
                unfold own_spec
                rw [if_neg (by omega), if_neg (by omega), if_neg (by omega), if_neg (by omega)]
              · rw [if_neg c6]
                by_cases c7 : ((own_at y0 y1 y2 y3 y4 y5 (i + 1)) &&& 255) < 128
                · rw [if_pos c7]
                  have pc0 := c0
                  have pc1 := c1
                  have pc2 := c2
                  have pc3 := c3
                  have pc4 := c4
                  have pc5 := c5
                  have pc6 := c6
                  have pc7 := c7
                  simp only [Int32.lt_iff_toInt_lt, ← Int32.toInt_inj, Int32.reduceToInt, u0.2.1, u0.2.2.1, u0.2.2.2] at pc0 pc1 pc2 pc3 pc4 pc5 pc6 pc7
                  unfold own_spec
                  rw [if_neg (by omega), if_neg (by omega), if_neg (by omega), if_neg (by omega)]
                · rw [if_neg c7]
                  by_cases c8 : 159 < ((own_at y0 y1 y2 y3 y4 y5 (i + 1)) &&& 255)
                  · rw [if_pos c8]
                    have pc0 := c0
                    have pc1 := c1
                    have pc2 := c2
                    have pc3 := c3
                    have pc4 := c4
                    have pc5 := c5
                    have pc6 := c6
                    have pc7 := c7
                    have pc8 := c8
                    simp only [Int32.lt_iff_toInt_lt, ← Int32.toInt_inj, Int32.reduceToInt, u0.2.1, u0.2.2.1, u0.2.2.2] at pc0 pc1 pc2 pc3 pc4 pc5 pc6 pc7 pc8
                    unfold own_spec
                    rw [if_neg (by omega), if_neg (by omega), if_neg (by omega), if_neg (by omega)]
                  · rw [if_neg c8]
                    by_cases c9 : ((own_at y0 y1 y2 y3 y4 y5 (i + 2)) &&& 255) < 128
                    · rw [if_pos c9]
                      have pc0 := c0
                      have pc1 := c1
                      have pc2 := c2
                      have pc3 := c3
                      have pc4 := c4
                      have pc5 := c5
                      have pc6 := c6
                      have pc7 := c7
                      have pc8 := c8
                      have pc9 := c9
                      simp only [Int32.lt_iff_toInt_lt, ← Int32.toInt_inj, Int32.reduceToInt, u0.2.1, u0.2.2.1, u0.2.2.2] at pc0 pc1 pc2 pc3 pc4 pc5 pc6 pc7 pc8 pc9
                      unfold own_spec
                      rw [if_neg (by omega), if_neg (by omega), if_neg (by omega), if_neg (by omega)]
                    · rw [if_neg c9]
                      by_cases c10 : 191 < ((own_at y0 y1 y2 y3 y4 y5 (i + 2)) &&& 255)
                      · rw [if_pos c10]
                        have pc0 := c0
                        have pc1 := c1
                        have pc2 := c2
                        have pc3 := c3
                        have pc4 := c4
                        have pc5 := c5
                        have pc6 := c6
                        have pc7 := c7
                        have pc8 := c8
                        have pc9 := c9
                        have pc10 := c10
                        simp only [Int32.lt_iff_toInt_lt, ← Int32.toInt_inj, Int32.reduceToInt, u0.2.1, u0.2.2.1, u0.2.2.2] at pc0 pc1 pc2 pc3 pc4 pc5 pc6 pc7 pc8 pc9 pc10
                        unfold own_spec
                        rw [if_neg (by omega), if_neg (by omega), if_neg (by omega), if_neg (by omega)]
                      · rw [if_neg c10]
                        have pc0 := c0
                        have pc1 := c1
                        have pc2 := c2
                        have pc3 := c3
                        have pc4 := c4
                        have pc5 := c5
                        have pc6 := c6
                        have pc7 := c7
                        have pc8 := c8
                        have pc9 := c9
                        have pc10 := c10
                        simp only [Int32.lt_iff_toInt_lt, ← Int32.toInt_inj, Int32.reduceToInt, u0.2.1, u0.2.2.1, u0.2.2.2] at pc0 pc1 pc2 pc3 pc4 pc5 pc6 pc7 pc8 pc9 pc10
                        unfold own_spec
                        rw [if_neg (by omega), if_neg (by omega), if_pos (by omega)]
            · rw [if_neg c5]
              by_cases c6 : (to0 - (i + 1)) < 2
              · rw [if_pos c6]
                have pc0 := c0
                have pc1 := c1
                have pc2 := c2
                have pc3 := c3
                have pc4 := c4
                have pc5 := c5
                have pc6 := c6
                simp only [Int32.lt_iff_toInt_lt, ← Int32.toInt_inj, Int32.reduceToInt, u0.2.1, u0.2.2.1, u0.2.2.2] at pc0 pc1 pc2 pc3 pc4 pc5 pc6
                unfold own_spec
                rw [if_neg (by omega), if_neg (by omega), if_neg (by omega), if_neg (by omega)]
              · rw [if_neg c6]
                by_cases c7 : ((own_at y0 y1 y2 y3 y4 y5 (i + 1)) &&& 255) < 128
                · rw [if_pos c7]
                  have pc0 := c0
                  have pc1 := c1
                  have pc2 := c2
                  have pc3 := c3
                  have pc4 := c4
                  have pc5 := c5
                  have pc6 := c6
                  have pc7 := c7
                  simp only [Int32.lt_iff_toInt_lt, ← Int32.toInt_inj, Int32.reduceToInt, u0.2.1, u0.2.2.1, u0.2.2.2] at pc0 pc1 pc2 pc3 pc4 pc5 pc6 pc7
                  unfold own_spec
                  rw [if_neg (by omega), if_neg (by omega), if_neg (by omega), if_neg (by omega)]
                · rw [if_neg c7]
                  by_cases c8 : 191 < ((own_at y0 y1 y2 y3 y4 y5 (i + 1)) &&& 255)
                  · rw [if_pos c8]
                    have pc0 := c0
                    have pc1 := c1
                    have pc2 := c2
                    have pc3 := c3
                    have pc4 := c4
                    have pc5 := c5
                    have pc6 := c6
                    have pc7 := c7
                    have pc8 := c8
                    simp only [Int32.lt_iff_toInt_lt, ← Int32.toInt_inj, Int32.reduceToInt, u0.2.1, u0.2.2.1, u0.2.2.2] at pc0 pc1 pc2 pc3 pc4 pc5 pc6 pc7 pc8
                    unfold own_spec
                    rw [if_neg (by omega), if_neg (by omega), if_neg (by omega), if_neg (by omega)]
                  · rw [if_neg c8]
                    by_cases c9 : ((own_at y0 y1 y2 y3 y4 y5 (i + 2)) &&& 255) < 128
                    · rw [if_pos c9]
                      have pc0 := c0
                      have pc1 := c1
                      have pc2 := c2
                      have pc3 := c3
                      have pc4 := c4
                      have pc5 := c5
                      have pc6 := c6
                      have pc7 := c7
                      have pc8 := c8
                      have pc9 := c9
                      simp only [Int32.lt_iff_toInt_lt, ← Int32.toInt_inj, Int32.reduceToInt, u0.2.1, u0.2.2.1, u0.2.2.2] at pc0 pc1 pc2 pc3 pc4 pc5 pc6 pc7 pc8 pc9
                      unfold own_spec
                      rw [if_neg (by omega), if_neg (by omega), if_neg (by omega), if_neg (by omega)]
                    · rw [if_neg c9]
                      by_cases c10 : 191 < ((own_at y0 y1 y2 y3 y4 y5 (i + 2)) &&& 255)
                      · rw [if_pos c10]
                        have pc0 := c0
                        have pc1 := c1
                        have pc2 := c2
                        have pc3 := c3
                        have pc4 := c4
                        have pc5 := c5
                        have pc6 := c6
                        have pc7 := c7
                        have pc8 := c8
                        have pc9 := c9
                        have pc10 := c10
                        simp only [Int32.lt_iff_toInt_lt, ← Int32.toInt_inj, Int32.reduceToInt, u0.2.1, u0.2.2.1, u0.2.2.2] at pc0 pc1 pc2 pc3 pc4 pc5 pc6 pc7 pc8 pc9 pc10
                        unfold own_spec
                        rw [if_neg (by omega), if_neg (by omega), if_neg (by omega), if_neg (by omega)]
                      · rw [if_neg c10]
                        have pc0 := c0
                        have pc1 := c1
                        have pc2 := c2
                        have pc3 := c3
                        have pc4 := c4
                        have pc5 := c5
                        have pc6 := c6
                        have pc7 := c7
                        have pc8 := c8
                        have pc9 := c9
                        have pc10 := c10
                        simp only [Int32.lt_iff_toInt_lt, ← Int32.toInt_inj, Int32.reduceToInt, u0.2.1, u0.2.2.1, u0.2.2.2] at pc0 pc1 pc2 pc3 pc4 pc5 pc6 pc7 pc8 pc9 pc10
                        unfold own_spec
                        rw [if_neg (by omega), if_neg (by omega), if_pos (by omega)]
      · rw [if_neg c2]
        by_cases c3 : (to0 - (i + 1)) < 1
        · rw [if_pos c3]
          have pc0 := c0
          have pc1 := c1
          have pc2 := c2
          have pc3 := c3
          simp only [Int32.lt_iff_toInt_lt, ← Int32.toInt_inj, Int32.reduceToInt, u0.2.1, u0.2.2.1, u0.2.2.2] at pc0 pc1 pc2 pc3
          unfold own_spec
          rw [if_neg (by omega), if_neg (by omega), if_neg (by omega), if_neg (by omega)]
        · rw [if_neg c3]
          by_cases c4 : ((own_at y0 y1 y2 y3 y4 y5 (i + 1)) &&& 255) < 128
          · rw [if_pos c4]
            have pc0 := c0
            have pc1 := c1
            have pc2 := c2
            have pc3 := c3
            have pc4 := c4
            simp only [Int32.lt_iff_toInt_lt, ← Int32.toInt_inj, Int32.reduceToInt, u0.2.1, u0.2.2.1, u0.2.2.2] at pc0 pc1 pc2 pc3 pc4
            unfold own_spec
            rw [if_neg (by omega), if_neg (by omega), if_neg (by omega), if_neg (by omega)]
          · rw [if_neg c4]
            by_cases c5 : 191 < ((own_at y0 y1 y2 y3 y4 y5 (i + 1)) &&& 255)
            · rw [if_pos c5]
              have pc0 := c0
              have pc1 := c1
              have pc2 := c2
              have pc3 := c3
              have pc4 := c4
              have pc5 := c5
              simp only [Int32.lt_iff_toInt_lt, ← Int32.toInt_inj, Int32.reduceToInt, u0.2.1, u0.2.2.1, u0.2.2.2] at pc0 pc1 pc2 pc3 pc4 pc5
              unfold own_spec
              rw [if_neg (by omega), if_neg (by omega), if_neg (by omega), if_neg (by omega)]
            · rw [if_neg c5]
              have pc0 := c0
              have pc1 := c1
              have pc2 := c2
              have pc3 := c3
              have pc4 := c4
              have pc5 := c5
              simp only [Int32.lt_iff_toInt_lt, ← Int32.toInt_inj, Int32.reduceToInt, u0.2.1, u0.2.2.1, u0.2.2.2] at pc0 pc1 pc2 pc3 pc4 pc5
              unfold own_spec
              rw [if_neg (by omega), if_pos (by omega)]
set_option maxHeartbeats 40000000 in
theorem own_step_spec (y0 y1 y2 y3 y4 y5 i to0 : Int32) (h0 : 0 ≤ i.toInt) (h1 : i < to0) (h2 : to0.toInt ≤ 6) : own_step y0 y1 y2 y3 y4 y5 i to0 = own_spec y0 y1 y2 y3 y4 y5 i to0 := by
  have a0 := own_l (own_at y0 y1 y2 y3 y4 y5 i)
  have a1 := own_l (own_at y0 y1 y2 y3 y4 y5 (i + 1))
  have a2 := own_l (own_at y0 y1 y2 y3 y4 y5 (i + 2))
  have a3 := own_l (own_at y0 y1 y2 y3 y4 y5 (i + 3))
  have u0 := own_u _ a0
  have m31 := c_mask ((own_at y0 y1 y2 y3 y4 y5 i) &&& 255) 31 5 (by decide) (by decide)
  have m15 := c_mask ((own_at y0 y1 y2 y3 y4 y5 i) &&& 255) 15 4 (by decide) (by decide)
  have m7 := c_mask ((own_at y0 y1 y2 y3 y4 y5 i) &&& 255) 7 3 (by decide) (by decide)
  have z1 := c_isub to0 i
  have z2 := c_isub (to0 - i) 1
  have z3 := c_isub to0 (i + 1)
  have z4 := c_iadd i 1
  have w1 := rng32 (to0 - i)
  have w2 := rng32 (to0 - i - 1)
  have w3 := rng32 (to0 - (i + 1))
  have w4 := rng32 (i + 1)
  have hlt := h1
  simp only [Int32.lt_iff_toInt_lt, Int32.reduceToInt] at z1 z2 z3 z4 hlt
  have hneg : ¬ i < 0 := by rw [Int32.lt_iff_toInt_lt]; simp; omega
  unfold own_step
  rw [if_neg hneg, if_pos h1]
  by_cases c0 : ((own_at y0 y1 y2 y3 y4 y5 i) &&& 255) < 128
  · rw [if_pos c0]
    have pc0 := c0
    simp only [Int32.lt_iff_toInt_lt, ← Int32.toInt_inj, Int32.reduceToInt, u0.2.1, u0.2.2.1, u0.2.2.2] at pc0
    unfold own_spec
    rw [if_pos (by omega)]
  · rw [if_neg c0]
    by_cases c1 : (((own_at y0 y1 y2 y3 y4 y5 i) &&& 255) &&& 224) = 192
    · rw [if_pos c1]
      by_cases c2 : ((to0 - i) - 1) < 1
      · rw [if_pos c2]
        have pc0 := c0
        have pc1 := c1
        have pc2 := c2
        simp only [Int32.lt_iff_toInt_lt, ← Int32.toInt_inj, Int32.reduceToInt, u0.2.1, u0.2.2.1, u0.2.2.2] at pc0 pc2
        rw [u0.2.1] at pc1
        unfold own_spec
        rw [if_neg (by omega), if_neg (by omega), if_neg (by omega), if_neg (by omega)]
      · rw [if_neg c2]
        have pk1_0 := c1
        rw [u0.2.1] at pk1_0
        have mv1 := own_more_v (((own_at y0 y1 y2 y3 y4 y5 i) &&& 255) &&& 31) (own_at y0 y1 y2 y3 y4 y5 (i + 1)) (by omega)
        by_cases c3 : (own_more (((own_at y0 y1 y2 y3 y4 y5 i) &&& 255) &&& 31) (own_at y0 y1 y2 y3 y4 y5 (i + 1))) < 0
        · rw [if_pos c3]
          have pc0 := c0
          have pc1 := c1
          have pc2 := c2
          have pc3 := c3
          simp only [Int32.lt_iff_toInt_lt, ← Int32.toInt_inj, Int32.reduceToInt, u0.2.1, u0.2.2.1, u0.2.2.2] at pc0 pc2 pc3
          rw [u0.2.1] at pc1
          unfold own_spec
          rw [if_neg (by omega), if_neg (by omega), if_neg (by omega), if_neg (by omega)]
        · rw [if_neg c3]
          by_cases c4 : (own_more (((own_at y0 y1 y2 y3 y4 y5 i) &&& 255) &&& 31) (own_at y0 y1 y2 y3 y4 y5 (i + 1))) < 128
          · rw [if_pos c4]
            have pc0 := c0
            have pc1 := c1
            have pc2 := c2
            have pc3 := c3
            have pc4 := c4
            simp only [Int32.lt_iff_toInt_lt, ← Int32.toInt_inj, Int32.reduceToInt, u0.2.1, u0.2.2.1, u0.2.2.2] at pc0 pc2 pc3 pc4
            rw [u0.2.1] at pc1
            unfold own_spec
            rw [if_neg (by omega), if_neg (by omega), if_neg (by omega), if_neg (by omega)]
          · rw [if_neg c4]
            have pc0 := c0
            have pc1 := c1
            have pc2 := c2
            have pc3 := c3
            have pc4 := c4
            simp only [Int32.lt_iff_toInt_lt, ← Int32.toInt_inj, Int32.reduceToInt, u0.2.1, u0.2.2.1, u0.2.2.2] at pc0 pc2 pc3 pc4
            rw [u0.2.1] at pc1
            unfold own_spec
            rw [if_neg (by omega), if_pos (by omega)]
            exact own_b1 i
    · rw [if_neg c1]
      by_cases c2 : (((own_at y0 y1 y2 y3 y4 y5 i) &&& 255) &&& 240) = 224
      · rw [if_pos c2]
        by_cases c3 : ((to0 - i) - 1) < 2
        · rw [if_pos c3]
          have pc0 := c0
          have pc1 := c1
          have pc2 := c2
          have pc3 := c3
          simp only [Int32.lt_iff_toInt_lt, ← Int32.toInt_inj, Int32.reduceToInt, u0.2.1, u0.2.2.1, u0.2.2.2] at pc0 pc3
          rw [u0.2.1] at pc1
          rw [u0.2.2.1] at pc2
          unfold own_spec
          rw [if_neg (by omega), if_neg (by omega), if_neg (by omega), if_neg (by omega)]
        · rw [if_neg c3]
          have pk1_0 := c1
          rw [u0.2.1] at pk1_0
          have pk1_1 := c2
          rw [u0.2.2.1] at pk1_1
          have mv1 := own_more_v (((own_at y0 y1 y2 y3 y4 y5 i) &&& 255) &&& 15) (own_at y0 y1 y2 y3 y4 y5 (i + 1)) (by omega)
          by_cases c4 : (own_more (((own_at y0 y1 y2 y3 y4 y5 i) &&& 255) &&& 15) (own_at y0 y1 y2 y3 y4 y5 (i + 1))) < 0
          · rw [if_pos c4]
            have pc0 := c0
            have pc1 := c1
            have pc2 := c2
            have pc3 := c3
            have pc4 := c4
            simp only [Int32.lt_iff_toInt_lt, ← Int32.toInt_inj, Int32.reduceToInt, u0.2.1, u0.2.2.1, u0.2.2.2] at pc0 pc3 pc4
            rw [u0.2.1] at pc1
            rw [u0.2.2.1] at pc2
            unfold own_spec
            rw [if_neg (by omega), if_neg (by omega), if_neg (by omega), if_neg (by omega)]
          · rw [if_neg c4]
            have pc2 := c4
            rw [Int32.lt_iff_toInt_lt] at pc2
            simp only [Int32.reduceToInt] at pc2
            have pk2_0 := c1
            rw [u0.2.1] at pk2_0
            have pk2_1 := c2
            rw [u0.2.2.1] at pk2_1
            have mv2 := own_more_v (own_more (((own_at y0 y1 y2 y3 y4 y5 i) &&& 255) &&& 15) (own_at y0 y1 y2 y3 y4 y5 (i + 1))) (own_at y0 y1 y2 y3 y4 y5 (i + 2)) (by omega)
            by_cases c5 : (own_more (own_more (((own_at y0 y1 y2 y3 y4 y5 i) &&& 255) &&& 15) (own_at y0 y1 y2 y3 y4 y5 (i + 1))) (own_at y0 y1 y2 y3 y4 y5 (i + 2))) < 0
            · rw [if_pos c5]
              have pc0 := c0
              have pc1 := c1
              have pc2 := c2
              have pc3 := c3
              have pc4 := c4
              have pc5 := c5
              simp only [Int32.lt_iff_toInt_lt, ← Int32.toInt_inj, Int32.reduceToInt, u0.2.1, u0.2.2.1, u0.2.2.2] at pc0 pc3 pc4 pc5
              rw [u0.2.1] at pc1
              rw [u0.2.2.1] at pc2
              unfold own_spec
              rw [if_neg (by omega), if_neg (by omega), if_neg (by omega), if_neg (by omega)]
            · rw [if_neg c5]
              by_cases c6 : (own_more (own_more (((own_at y0 y1 y2 y3 y4 y5 i) &&& 255) &&& 15) (own_at y0 y1 y2 y3 y4 y5 (i + 1))) (own_at y0 y1 y2 y3 y4 y5 (i + 2))) < 2048
              · rw [if_pos c6]
                have pc0 := c0
                have pc1 := c1
                have pc2 := c2
                have pc3 := c3
                have pc4 := c4
                have pc5 := c5
                have pc6 := c6
                simp only [Int32.lt_iff_toInt_lt, ← Int32.toInt_inj, Int32.reduceToInt, u0.2.1, u0.2.2.1, u0.2.2.2] at pc0 pc3 pc4 pc5 pc6
                rw [u0.2.1] at pc1
                rw [u0.2.2.1] at pc2
                unfold own_spec
                rw [if_neg (by omega), if_neg (by omega), if_neg (by omega), if_neg (by omega)]
              · rw [if_neg c6]
                by_cases c7 : (own_more (own_more (((own_at y0 y1 y2 y3 y4 y5 i) &&& 255) &&& 15) (own_at y0 y1 y2 y3 y4 y5 (i + 1))) (own_at y0 y1 y2 y3 y4 y5 (i + 2))) < 55296
                · rw [if_pos c7]
                  have pc0 := c0
                  have pc1 := c1
                  have pc2 := c2
                  have pc3 := c3
                  have pc4 := c4
                  have pc5 := c5
                  have pc6 := c6
                  have pc7 := c7
                  simp only [Int32.lt_iff_toInt_lt, ← Int32.toInt_inj, Int32.reduceToInt, u0.2.1, u0.2.2.1, u0.2.2.2] at pc0 pc3 pc4 pc5 pc6 pc7
                  rw [u0.2.1] at pc1
                  rw [u0.2.2.1] at pc2
                  unfold own_spec
                  rw [if_neg (by omega), if_neg (by omega), if_pos (by omega)]
                  show i + 1 + 2 = i + 3; rw [Int32.add_assoc]; rfl
                · rw [if_neg c7]
                  by_cases c8 : 57343 < (own_more (own_more (((own_at y0 y1 y2 y3 y4 y5 i) &&& 255) &&& 15) (own_at y0 y1 y2 y3 y4 y5 (i + 1))) (own_at y0 y1 y2 y3 y4 y5 (i + 2)))
                  · rw [if_pos c8]
                    have pc0 := c0
                    have pc1 := c1
                    have pc2 := c2
                    have pc3 := c3
                    have pc4 := c4
                    have pc5 := c5
                    have pc6 := c6
                    have pc7 := c7
                    have pc8 := c8
                    simp only [Int32.lt_iff_toInt_lt, ← Int32.toInt_inj, Int32.reduceToInt, u0.2.1, u0.2.2.1, u0.2.2.2] at pc0 pc3 pc4 pc5 pc6 pc7 pc8
                    rw [u0.2.1] at pc1
                    rw [u0.2.2.1] at pc2
                    unfold own_spec
                    rw [if_neg (by omega), if_neg (by omega), if_pos (by omega)]
                    show i + 1 + 2 = i + 3; rw [Int32.add_assoc]; rfl
                  · rw [if_neg c8]
                    have pc0 := c0
                    have pc1 := c1
                    have pc2 := c2
                    have pc3 := c3
                    have pc4 := c4
                    have pc5 := c5
                    have pc6 := c6
                    have pc7 := c7
                    have pc8 := c8
                    simp only [Int32.lt_iff_toInt_lt, ← Int32.toInt_inj, Int32.reduceToInt, u0.2.1, u0.2.2.1, u0.2.2.2] at pc0 pc3 pc4 pc5 pc6 pc7 pc8
                    rw [u0.2.1] at pc1
                    rw [u0.2.2.1] at pc2
                    unfold own_spec
                    rw [if_neg (by omega), if_neg (by omega), if_neg (by omega), if_neg (by omega)]
      · rw [if_neg c2]
        by_cases c3 : (((own_at y0 y1 y2 y3 y4 y5 i) &&& 255) &&& 248) = 240
        · rw [if_pos c3]
          by_cases c4 : ((to0 - i) - 1) < 3
          · rw [if_pos c4]
            have pc0 := c0
            have pc1 := c1
            have pc2 := c2
            have pc3 := c3
            have pc4 := c4
            simp only [Int32.lt_iff_toInt_lt, ← Int32.toInt_inj, Int32.reduceToInt, u0.2.1, u0.2.2.1, u0.2.2.2] at pc0 pc4
            rw [u0.2.1] at pc1
            rw [u0.2.2.1] at pc2
            rw [u0.2.2.2] at pc3
            unfold own_spec
            rw [if_neg (by omega), if_neg (by omega), if_neg (by omega), if_neg (by omega)]
          · rw [if_neg c4]
            have pk1_0 := c1
            rw [u0.2.1] at pk1_0
            have pk1_1 := c2
            rw [u0.2.2.1] at pk1_1
            have pk1_2 := c3
            rw [u0.2.2.2] at pk1_2
            have mv1 := own_more_v (((own_at y0 y1 y2 y3 y4 y5 i) &&& 255) &&& 7) (own_at y0 y1 y2 y3 y4 y5 (i + 1)) (by omega)
            by_cases c5 : (own_more (((own_at y0 y1 y2 y3 y4 y5 i) &&& 255) &&& 7) (own_at y0 y1 y2 y3 y4 y5 (i + 1))) < 0
            · rw [if_pos c5]
              have pc0 := c0
              have pc1 := c1
              have pc2 := c2
              have pc3 := c3
              have pc4 := c4
              have pc5 := c5
              simp only [Int32.lt_iff_toInt_lt, ← Int32.toInt_inj, Int32.reduceToInt, u0.2.1, u0.2.2.1, u0.2.2.2] at pc0 pc4 pc5
              rw [u0.2.1] at pc1
              rw [u0.2.2.1] at pc2
              rw [u0.2.2.2] at pc3
              unfold own_spec
              rw [if_neg (by omega), if_neg (by omega), if_neg (by omega), if_neg (by omega)]
            · rw [if_neg c5]
              have pc2 := c5
              rw [Int32.lt_iff_toInt_lt] at pc2
              simp only [Int32.reduceToInt] at pc2
              have pk2_0 := c1
              rw [u0.2.1] at pk2_0
              have pk2_1 := c2
              rw [u0.2.2.1] at pk2_1
              have pk2_2 := c3
              rw [u0.2.2.2] at pk2_2
              have mv2 := own_more_v (own_more (((own_at y0 y1 y2 y3 y4 y5 i) &&& 255) &&& 7) (own_at y0 y1 y2 y3 y4 y5 (i + 1))) (own_at y0 y1 y2 y3 y4 y5 (i + 2)) (by omega)
              by_cases c6 : (own_more (own_more (((own_at y0 y1 y2 y3 y4 y5 i) &&& 255) &&& 7) (own_at y0 y1 y2 y3 y4 y5 (i + 1))) (own_at y0 y1 y2 y3 y4 y5 (i + 2))) < 0
              · rw [if_pos c6]
                have pc0 := c0
                have pc1 := c1
                have pc2 := c2
                have pc3 := c3
                have pc4 := c4
                have pc5 := c5
                have pc6 := c6
                simp only [Int32.lt_iff_toInt_lt, ← Int32.toInt_inj, Int32.reduceToInt, u0.2.1, u0.2.2.1, u0.2.2.2] at pc0 pc4 pc5 pc6
                rw [u0.2.1] at pc1
                rw [u0.2.2.1] at pc2
                rw [u0.2.2.2] at pc3
                unfold own_spec
                rw [if_neg (by omega), if_neg (by omega), if_neg (by omega), if_neg (by omega)]
              · rw [if_neg c6]
                have pc3 := c6
                rw [Int32.lt_iff_toInt_lt] at pc3
                simp only [Int32.reduceToInt] at pc3
                have pk3_0 := c1
                rw [u0.2.1] at pk3_0
                have pk3_1 := c2
                rw [u0.2.2.1] at pk3_1
                have pk3_2 := c3
                rw [u0.2.2.2] at pk3_2
                have mv3 := own_more_v (own_more (own_more (((own_at y0 y1 y2 y3 y4 y5 i) &&& 255) &&& 7) (own_at y0 y1 y2 y3 y4 y5 (i + 1))) (own_at y0 y1 y2 y3 y4 y5 (i + 2))) (own_at y0 y1 y2 y3 y4 y5 (i + 3)) (by omega)
                by_cases c7 : (own_more (own_more (own_more (((own_at y0 y1 y2 y3 y4 y5 i) &&& 255) &&& 7) (own_at y0 y1 y2 y3 y4 y5 (i + 1))) (own_at y0 y1 y2 y3 y4 y5 (i + 2))) (own_at y0 y1 y2 y3 y4 y5 (i + 3))) < 0
                · rw [if_pos c7]
                  have pc0 := c0
                  have pc1 := c1
                  have pc2 := c2
                  have pc3 := c3
                  have pc4 := c4
                  have pc5 := c5
                  have pc6 := c6
                  have pc7 := c7
                  simp only [Int32.lt_iff_toInt_lt, ← Int32.toInt_inj, Int32.reduceToInt, u0.2.1, u0.2.2.1, u0.2.2.2] at pc0 pc4 pc5 pc6 pc7
                  rw [u0.2.1] at pc1
                  rw [u0.2.2.1] at pc2
                  rw [u0.2.2.2] at pc3
                  unfold own_spec
                  rw [if_neg (by omega), if_neg (by omega), if_neg (by omega), if_neg (by omega)]
                · rw [if_neg c7]
                  by_cases c8 : (own_more (own_more (own_more (((own_at y0 y1 y2 y3 y4 y5 i) &&& 255) &&& 7) (own_at y0 y1 y2 y3 y4 y5 (i + 1))) (own_at y0 y1 y2 y3 y4 y5 (i + 2))) (own_at y0 y1 y2 y3 y4 y5 (i + 3))) < 65536
                  · rw [if_pos c8]
                    have pc0 := c0
                    have pc1 := c1
                    have pc2 := c2
                    have pc3 := c3
                    have pc4 := c4
                    have pc5 := c5
                    have pc6 := c6
                    have pc7 := c7
                    have pc8 := c8
                    simp only [Int32.lt_iff_toInt_lt, ← Int32.toInt_inj, Int32.reduceToInt, u0.2.1, u0.2.2.1, u0.2.2.2] at pc0 pc4 pc5 pc6 pc7 pc8
                    rw [u0.2.1] at pc1
                    rw [u0.2.2.1] at pc2
                    rw [u0.2.2.2] at pc3
                    unfold own_spec
                    rw [if_neg (by omega), if_neg (by omega), if_neg (by omega), if_neg (by omega)]
                  · rw [if_neg c8]
                    by_cases c9 : 1114111 < (own_more (own_more (own_more (((own_at y0 y1 y2 y3 y4 y5 i) &&& 255) &&& 7) (own_at y0 y1 y2 y3 y4 y5 (i + 1))) (own_at y0 y1 y2 y3 y4 y5 (i + 2))) (own_at y0 y1 y2 y3 y4 y5 (i + 3)))
                    · rw [if_pos c9]
                      have pc0 := c0
                      have pc1 := c1
                      have pc2 := c2
                      have pc3 := c3
                      have pc4 := c4
                      have pc5 := c5
                      have pc6 := c6
                      have pc7 := c7
                      have pc8 := c8
                      have pc9 := c9
                      simp only [Int32.lt_iff_toInt_lt, ← Int32.toInt_inj, Int32.reduceToInt, u0.2.1, u0.2.2.1, u0.2.2.2] at pc0 pc4 pc5 pc6 pc7 pc8 pc9
                      rw [u0.2.1] at pc1
                      rw [u0.2.2.1] at pc2
                      rw [u0.2.2.2] at pc3
                      unfold own_spec
                      rw [if_neg (by omega), if_neg (by omega), if_neg (by omega), if_neg (by omega)]
                    · rw [if_neg c9]
                      have pc0 := c0
                      have pc1 := c1
                      have pc2 := c2
                      have pc3 := c3
                      have pc4 := c4
                      have pc5 := c5
                      have pc6 := c6
                      have pc7 := c7
                      have pc8 := c8
                      have pc9 := c9
                      simp only [Int32.lt_iff_toInt_lt, ← Int32.toInt_inj, Int32.reduceToInt, u0.2.1, u0.2.2.1, u0.2.2.2] at pc0 pc4 pc5 pc6 pc7 pc8 pc9
                      rw [u0.2.1] at pc1
                      rw [u0.2.2.1] at pc2
                      rw [u0.2.2.2] at pc3
                      unfold own_spec
                      rw [if_neg (by omega), if_neg (by omega), if_neg (by omega), if_pos (by omega)]
                      show i + 1 + 3 = i + 4; rw [Int32.add_assoc]; rfl
        · rw [if_neg c3]
          have pc0 := c0
          have pc1 := c1
          have pc2 := c2
          have pc3 := c3
          simp only [Int32.lt_iff_toInt_lt, ← Int32.toInt_inj, Int32.reduceToInt, u0.2.1, u0.2.2.1, u0.2.2.2] at pc0
          rw [u0.2.1] at pc1
          rw [u0.2.2.1] at pc2
          rw [u0.2.2.2] at pc3
          unfold own_spec
          rw [if_neg (by omega), if_neg (by omega), if_neg (by omega), if_neg (by omega)]
theorem own_step_turn (y0 y1 y2 y3 y4 y5 i to0 : Int32) (h0 : 0 ≤ i.toInt) (h1 : i < to0) (h2 : to0.toInt ≤ 6) : own_step y0 y1 y2 y3 y4 y5 i to0 = own_turn y0 y1 y2 y3 y4 y5 i to0 := (own_step_spec y0 y1 y2 y3 y4 y5 i to0 h0 h1 h2).trans (own_turn_spec y0 y1 y2 y3 y4 y5 i to0 h0 h1 h2).symm
theorem own_spec_rng (y0 y1 y2 y3 y4 y5 i to0 : Int32) (h0 : 0 ≤ i.toInt) (h1 : i < to0) (h2 : to0.toInt ≤ 6) : own_spec y0 y1 y2 y3 y4 y5 i to0 = -1 ∨ (i.toInt < (own_spec y0 y1 y2 y3 y4 y5 i to0).toInt ∧ (own_spec y0 y1 y2 y3 y4 y5 i to0).toInt ≤ to0.toInt) := by
  have q1 := c_iadd i 1; have q2 := c_iadd i 2; have q3 := c_iadd i 3; have q4 := c_iadd i 4
  have r1 := rng32 (i + 1); have r2 := rng32 (i + 2); have r3 := rng32 (i + 3); have r4 := rng32 (i + 4)
  rw [Int32.lt_iff_toInt_lt] at h1
  simp only [Int32.reduceToInt] at q1 q2 q3 q4
  unfold own_spec
  split
  · right; omega
  · split
    · right; omega
    · split
      · right; omega
      · split
        · right; omega
        · left; rfl
def own_it (y0 y1 y2 y3 y4 y5 to0 : Int32) : Nat → Int32 → Int32
  | 0, i => i
  | k + 1, i => own_it y0 y1 y2 y3 y4 y5 to0 k (own_step y0 y1 y2 y3 y4 y5 i to0)
theorem own_step_neg (y0 y1 y2 y3 y4 y5 to0 : Int32) : own_step y0 y1 y2 y3 y4 y5 (-1) to0 = -1 := by unfold own_step; rw [if_pos (by decide)]
theorem own_step_to (y0 y1 y2 y3 y4 y5 to0 : Int32) (h : 0 ≤ to0.toInt) : own_step y0 y1 y2 y3 y4 y5 to0 to0 = to0 := by
  have h1 : ¬ to0 < 0 := by rw [Int32.lt_iff_toInt_lt]; simp; omega
  unfold own_step; rw [if_neg h1, if_neg Int32.lt_irrefl]
theorem own_it_neg (y0 y1 y2 y3 y4 y5 to0 : Int32) (k : Nat) : own_it y0 y1 y2 y3 y4 y5 to0 k (-1) = -1 := by
  induction k with
  | zero => rfl
  | succ k ih => simp only [own_it, own_step_neg, ih]
theorem own_it_to (y0 y1 y2 y3 y4 y5 to0 : Int32) (h : 0 ≤ to0.toInt) (k : Nat) : own_it y0 y1 y2 y3 y4 y5 to0 k to0 = to0 := by
  induction k with
  | zero => rfl
  | succ k ih => simp only [own_it, own_step_to _ _ _ _ _ _ _ h, ih]
theorem own_run (y0 y1 y2 y3 y4 y5 to0 : Int32) (h2 : to0.toInt ≤ 6) : ∀ (k : Nat) (i : Int32), 0 ≤ i.toInt → i.toInt ≤ to0.toInt → to0.toInt - i.toInt ≤ k → (own_wf y0 y1 y2 y3 y4 y5 to0 k i = 1 ∧ own_it y0 y1 y2 y3 y4 y5 to0 k i = to0) ∨ (own_wf y0 y1 y2 y3 y4 y5 to0 k i = 0 ∧ own_it y0 y1 y2 y3 y4 y5 to0 k i = -1) := by
  intro k
  induction k with
  | zero =>
    intro i h0 h1 h3
    left
    exact ⟨rfl, Int32.toInt_inj.mp (by show i.toInt = _; omega)⟩
  | succ k ih =>
    intro i h0 h1 h3
    by_cases c : i < to0
    · have e := own_step_turn y0 y1 y2 y3 y4 y5 i to0 h0 c h2
      have r := own_spec_rng y0 y1 y2 y3 y4 y5 i to0 h0 c h2
      rw [← own_turn_spec y0 y1 y2 y3 y4 y5 i to0 h0 c h2] at r
      by_cases d : own_turn y0 y1 y2 y3 y4 y5 i to0 = -1
      · right
        refine ⟨own_wf_bad _ _ _ _ _ _ _ _ _ c d, ?_⟩
        show own_it y0 y1 y2 y3 y4 y5 to0 k (own_step y0 y1 y2 y3 y4 y5 i to0) = -1
        rw [e, d]; exact own_it_neg _ _ _ _ _ _ _ _
      · rcases r with r | r
        · exact absurd r d
        · have q := ih (own_turn y0 y1 y2 y3 y4 y5 i to0) (by omega) r.2 (by omega)
          rw [own_wf_on _ _ _ _ _ _ _ _ _ _ c rfl d]
          show _ ∧ own_it y0 y1 y2 y3 y4 y5 to0 k (own_step y0 y1 y2 y3 y4 y5 i to0) = to0 ∨ _ ∧ own_it y0 y1 y2 y3 y4 y5 to0 k (own_step y0 y1 y2 y3 y4 y5 i to0) = -1
          rw [e]; exact q
    · left
      have e : i = to0 := Int32.toInt_inj.mp (by rw [Int32.lt_iff_toInt_lt] at c; omega)
      subst e
      refine ⟨own_wf_end _ _ _ _ _ _ _ _ _ c, ?_⟩
      exact own_it_to _ _ _ _ _ _ _ h0 (k + 1)
theorem own_final (y0 y1 y2 y3 y4 y5 fr to0 : Int32) (h0 : 0 ≤ fr.toInt) (h1 : fr.toInt ≤ to0.toInt) (h2 : to0.toInt ≤ 6) (s1 s2 s3 s4 s5 s6 : Int32) (e1 : own_step y0 y1 y2 y3 y4 y5 fr to0 = s1) (e2 : own_step y0 y1 y2 y3 y4 y5 s1 to0 = s2) (e3 : own_step y0 y1 y2 y3 y4 y5 s2 to0 = s3) (e4 : own_step y0 y1 y2 y3 y4 y5 s3 to0 = s4) (e5 : own_step y0 y1 y2 y3 y4 y5 s4 to0 = s5) (e6 : own_step y0 y1 y2 y3 y4 y5 s5 to0 = s6) :
    (s6 = to0 → own_wf y0 y1 y2 y3 y4 y5 to0 6 fr = 1) ∧ (¬ s6 = to0 → own_wf y0 y1 y2 y3 y4 y5 to0 6 fr = 0) := by
  have e : own_it y0 y1 y2 y3 y4 y5 to0 6 fr = s6 := by
    show own_step y0 y1 y2 y3 y4 y5 (own_step y0 y1 y2 y3 y4 y5 (own_step y0 y1 y2 y3 y4 y5 (own_step y0 y1 y2 y3 y4 y5 (own_step y0 y1 y2 y3 y4 y5 (own_step y0 y1 y2 y3 y4 y5 fr to0) to0) to0) to0) to0) to0 = s6
    rw [e1, e2, e3, e4, e5, e6]
  rcases own_run y0 y1 y2 y3 y4 y5 to0 h2 6 fr h0 h1 (by omega) with ⟨q1, q2⟩ | ⟨q1, q2⟩
  · exact ⟨fun _ => q1, fun n => absurd (e.symm.trans q2) n⟩
  · refine ⟨fun z => ?_, fun _ => q1⟩
    rw [e] at q2
    have : (-1 : Int32).toInt = to0.toInt := by rw [← q2, z]
    simp at this
    omega

theorem own_d_jdk_29_method_69_code_0 : decode jdk_29_method_69_code 0 = .ok (.iload_n 0, 1) := by decide +kernel
theorem own_d_jdk_29_method_69_code_1 : decode jdk_29_method_69_code 1 = .ok (.iload_n 1, 1) := by decide +kernel
theorem own_d_jdk_29_method_69_code_2 : decode jdk_29_method_69_code 2 = .ok (.if_icmp .gt 7, 3) := by decide +kernel
theorem own_d_jdk_29_method_69_code_5 : decode jdk_29_method_69_code 5 = .ok (.iload_n 0, 1) := by decide +kernel
theorem own_d_jdk_29_method_69_code_6 : decode jdk_29_method_69_code 6 = .ok (.goto 4, 3) := by decide +kernel
theorem own_d_jdk_29_method_69_code_10 : decode jdk_29_method_69_code 10 = .ok (.ireturn, 1) := by decide +kernel
theorem own_d_jdk_29_method_69_code_9 : decode jdk_29_method_69_code 9 = .ok (.iload_n 1, 1) := by decide +kernel
def Q_min_0 (Z : State) (y1 : Int32) (h0 : Heap) (n0 : Nat) (v : Option Value) (h : Heap) (L : List Loc) : Prop := v = some (.int y1) ∧ Fr n0 L ∧ h = h0
set_option maxRecDepth 65536 in
set_option maxHeartbeats 40000000 in
theorem rm_min_0 (l : Launch) (Z : State) (a0 : Array Value) (hw : ∀ d ∈ tables_1, d.before a0 Z = true) (ws : List Jvm.Cond) (y0 : Int32) (y1 : Int32) (h0 : Heap) (n0 : Nat) (Z0 : n0 ≤ h0.size) (hb0 : y1 < y0) :
    MetFree l (⟨"java/lang/Math", "min", "(II)I"⟩ : MethodName) (head1 (Jvm.Cond.code (⟨"java/lang/Math", "min", "(II)I"⟩ : MethodName) jdk_29_method_69_code 2 (some .int) :: ws) ({ frames := 0, cells := 0, slots := 0, locals := 0 } : Room)) (fun aA U => aA = #[(.int y0), (.int y1)] ∧ Z.Warmed39 U.vm ∧ U.heap = h0) (fun _ _ _ _ _ => True) (fun _ U o U' => ∃ v L, o = .returned v ∧ Q_min_0 Z y1 h0 n0 v U'.heap L ∧ FrameEnd U o U' L ({ frames := 0, cells := 0, slots := 0, locals := 0 } : Room).cells ({ frames := 0, cells := 0, slots := 0, locals := 0 } : Room).slots) := by
  refine MetFree.of_bodySF (Jvm.Free.JP.mathPlain rfl (by decide +kernel)) hisR ?_
  intro p e s m args below meth c s₁ Bd hml0 hP hK
  obtain ⟨rfl, hZ, hh⟩ := hP
  have hx := Bd.exec
  have hby := Bd.bytes
  have hlk : meth.locks = false := BodyLoose.notSynchronized Bd
  have hml : c.maxLocals = 2 := hml0
  have hown : s.vm.findClass "java/lang/Math" = some m.cls := findClass_of_methodNamed Bd.named
  have hnm := (name_of_methodNamed Bd.named Bd.method).1
  have X0 : Stand p l e ({ frames := 0, cells := 0, slots := 0, locals := 0 } : Room) s m #[(.int y0), (.int y1)] below meth c s₁ [] 0 0 := Stand.of_body Bd
  have e0 : s₁.heap = h0 := by rw [← hh, Bd.state]; rfl
  have N0 := Fr.nil n0
  show own_Go p e below (own_K s (Q_min_0 Z y1 h0 n0) ({ frames := 0, cells := 0, slots := 0, locals := 0 } : Room).cells ({ frames := 0, cells := 0, slots := 0, locals := 0 } : Room).slots) (s₁.setTop (entryFrame m #[(.int y0), (.int y1)] 2))
  rw [(by first | (simp [entryFrame, mkF, argsToLocals, Value.category]; done) | rfl : entryFrame m #[(.int y0), (.int y1)] 2 = mkF m 0 #[.val (.int y0), .val (.int y1)] [])]
  show own_Go p e below _ (s₁.setTop (mkF m 0 #[.val (.int y0), .val (.int y1)] []))
  refine own_go (fun _ hr => XS.iloadN X0.here hx rfl (hb hby own_d_jdk_29_method_69_code_0) rfl (XS.iloadN X0.here hx rfl (hb hby own_d_jdk_29_method_69_code_1) rfl hr)) ?_
  show own_Go p e below _ (s₁.setTop (mkF m 2 #[.val (.int y0), .val (.int y1)] [(.int y1), (.int y0)]))
  refine own_go (fun _ hr => XS.icmpYes X0.here hx rfl (pc0 := 2) (pc' := 9) rfl (hb hby own_d_jdk_29_method_69_code_2) rfl (tlt hb0).2.2.1 (by decide) (by decide) hr) ?_
  show own_Go p e below _ (s₁.setTop (mkF m 9 #[.val (.int y0), .val (.int y1)] []))
  refine own_go (fun _ hr => XS.iloadN X0.here hx rfl (hb hby own_d_jdk_29_method_69_code_9) rfl hr) ?_
  show own_Go p e below _ (s₁.setTop (mkF m 10 #[.val (.int y0), .val (.int y1)] [(.int y1)]))
  exact own_retI X0 hx hlk Bd.returns (hb hby own_d_jdk_29_method_69_code_10) (by decide) (by decide) ⟨rfl, N0, e0⟩
theorem own_pd1 : parseMethodDescriptor "(II)I" = some ⟨[.int, .int], some .int⟩ := by decide +kernel
theorem own_d_jdk_29_method_65_code_0 : decode jdk_29_method_65_code 0 = .ok (.iload_n 0, 1) := by decide +kernel
theorem own_d_jdk_29_method_65_code_1 : decode jdk_29_method_65_code 1 = .ok (.iload_n 1, 1) := by decide +kernel
theorem own_d_jdk_29_method_65_code_2 : decode jdk_29_method_65_code 2 = .ok (.if_icmp .lt 7, 3) := by decide +kernel
theorem own_d_jdk_29_method_65_code_5 : decode jdk_29_method_65_code 5 = .ok (.iload_n 0, 1) := by decide +kernel
theorem own_d_jdk_29_method_65_code_6 : decode jdk_29_method_65_code 6 = .ok (.goto 4, 3) := by decide +kernel
theorem own_d_jdk_29_method_65_code_10 : decode jdk_29_method_65_code 10 = .ok (.ireturn, 1) := by decide +kernel
def Q_max_1 (Z : State) (y0 : Int32) (h0 : Heap) (n0 : Nat) (v : Option Value) (h : Heap) (L : List Loc) : Prop := v = some (.int y0) ∧ Fr n0 L ∧ h = h0
set_option maxRecDepth 65536 in
set_option maxHeartbeats 40000000 in
theorem rm_max_1 (l : Launch) (Z : State) (a0 : Array Value) (hw : ∀ d ∈ tables_1, d.before a0 Z = true) (ws : List Jvm.Cond) (y0 : Int32) (y1 : Int32) (h0 : Heap) (n0 : Nat) (Z0 : n0 ≤ h0.size) (hb0 : ¬ (y0 < y1)) :
    MetFree l (⟨"java/lang/Math", "max", "(II)I"⟩ : MethodName) (head1 (Jvm.Cond.code (⟨"java/lang/Math", "max", "(II)I"⟩ : MethodName) jdk_29_method_65_code 2 (some .int) :: ws) ({ frames := 0, cells := 0, slots := 0, locals := 0 } : Room)) (fun aA U => aA = #[(.int y0), (.int y1)] ∧ Z.Warmed39 U.vm ∧ U.heap = h0) (fun _ _ _ _ _ => True) (fun _ U o U' => ∃ v L, o = .returned v ∧ Q_max_1 Z y0 h0 n0 v U'.heap L ∧ FrameEnd U o U' L ({ frames := 0, cells := 0, slots := 0, locals := 0 } : Room).cells ({ frames := 0, cells := 0, slots := 0, locals := 0 } : Room).slots) := by
  refine MetFree.of_bodySF (Jvm.Free.JP.mathPlain rfl (by decide +kernel)) hisR ?_
  intro p e s m args below meth c s₁ Bd hml0 hP hK
  obtain ⟨rfl, hZ, hh⟩ := hP
  have hx := Bd.exec
  have hby := Bd.bytes
  have hlk : meth.locks = false := BodyLoose.notSynchronized Bd
  have hml : c.maxLocals = 2 := hml0
  have hown : s.vm.findClass "java/lang/Math" = some m.cls := findClass_of_methodNamed Bd.named
  have hnm := (name_of_methodNamed Bd.named Bd.method).1
  have X0 : Stand p l e ({ frames := 0, cells := 0, slots := 0, locals := 0 } : Room) s m #[(.int y0), (.int y1)] below meth c s₁ [] 0 0 := Stand.of_body Bd
  have e0 : s₁.heap = h0 := by rw [← hh, Bd.state]; rfl
  have N0 := Fr.nil n0
  show own_Go p e below (own_K s (Q_max_1 Z y0 h0 n0) ({ frames := 0, cells := 0, slots := 0, locals := 0 } : Room).cells ({ frames := 0, cells := 0, slots := 0, locals := 0 } : Room).slots) (s₁.setTop (entryFrame m #[(.int y0), (.int y1)] 2))
  rw [(by first | (simp [entryFrame, mkF, argsToLocals, Value.category]; done) | rfl : entryFrame m #[(.int y0), (.int y1)] 2 = mkF m 0 #[.val (.int y0), .val (.int y1)] [])]
  show own_Go p e below _ (s₁.setTop (mkF m 0 #[.val (.int y0), .val (.int y1)] []))
  refine own_go (fun _ hr => XS.iloadN X0.here hx rfl (hb hby own_d_jdk_29_method_65_code_0) rfl (XS.iloadN X0.here hx rfl (hb hby own_d_jdk_29_method_65_code_1) rfl hr)) ?_
  show own_Go p e below _ (s₁.setTop (mkF m 2 #[.val (.int y0), .val (.int y1)] [(.int y1), (.int y0)]))
  refine own_go (fun _ hr => XS.icmpNo X0.here hx rfl (hb hby own_d_jdk_29_method_65_code_2) rfl (flt hb0).1 hr) ?_
  show own_Go p e below _ (s₁.setTop (mkF m 5 #[.val (.int y0), .val (.int y1)] []))
  refine own_go (fun _ hr => XS.iloadN X0.here hx rfl (hb hby own_d_jdk_29_method_65_code_5) rfl (XS.goto X0.here hx rfl (pc0 := 6) (pc' := 10) rfl (hb hby own_d_jdk_29_method_65_code_6) (by decide) (by decide) hr)) ?_
  show own_Go p e below _ (s₁.setTop (mkF m 10 #[.val (.int y0), .val (.int y1)] [(.int y0)]))
  exact own_retI X0 hx hlk Bd.returns (hb hby own_d_jdk_29_method_65_code_10) (by decide) (by decide) ⟨rfl, N0, e0⟩
theorem own_pd2 : parseMethodDescriptor "([BII)I" = some ⟨[(.array .byte), .int, .int], some .int⟩ := by decide +kernel
theorem own_pd3 : parseMethodDescriptor "([BII)Z" = some ⟨[(.array .byte), .int, .int], some .boolean⟩ := by decide +kernel
def Q_min_2 (Z : State) (y0 : Int32) (h0 : Heap) (n0 : Nat) (v : Option Value) (h : Heap) (L : List Loc) : Prop := v = some (.int y0) ∧ Fr n0 L ∧ h = h0
set_option maxRecDepth 65536 in
set_option maxHeartbeats 40000000 in
theorem rm_min_2 (l : Launch) (Z : State) (a0 : Array Value) (hw : ∀ d ∈ tables_1, d.before a0 Z = true) (ws : List Jvm.Cond) (y0 : Int32) (y1 : Int32) (h0 : Heap) (n0 : Nat) (Z0 : n0 ≤ h0.size) (hb0 : ¬ (y1 < y0)) :
    MetFree l (⟨"java/lang/Math", "min", "(II)I"⟩ : MethodName) (head1 (Jvm.Cond.code (⟨"java/lang/Math", "min", "(II)I"⟩ : MethodName) jdk_29_method_69_code 2 (some .int) :: ws) ({ frames := 0, cells := 0, slots := 0, locals := 0 } : Room)) (fun aA U => aA = #[(.int y0), (.int y1)] ∧ Z.Warmed39 U.vm ∧ U.heap = h0) (fun _ _ _ _ _ => True) (fun _ U o U' => ∃ v L, o = .returned v ∧ Q_min_2 Z y0 h0 n0 v U'.heap L ∧ FrameEnd U o U' L ({ frames := 0, cells := 0, slots := 0, locals := 0 } : Room).cells ({ frames := 0, cells := 0, slots := 0, locals := 0 } : Room).slots) := by
  refine MetFree.of_bodySF (Jvm.Free.JP.mathPlain rfl (by decide +kernel)) hisR ?_
  intro p e s m args below meth c s₁ Bd hml0 hP hK
  obtain ⟨rfl, hZ, hh⟩ := hP
  have hx := Bd.exec
  have hby := Bd.bytes
  have hlk : meth.locks = false := BodyLoose.notSynchronized Bd
  have hml : c.maxLocals = 2 := hml0
  have hown : s.vm.findClass "java/lang/Math" = some m.cls := findClass_of_methodNamed Bd.named
  have hnm := (name_of_methodNamed Bd.named Bd.method).1
  have X0 : Stand p l e ({ frames := 0, cells := 0, slots := 0, locals := 0 } : Room) s m #[(.int y0), (.int y1)] below meth c s₁ [] 0 0 := Stand.of_body Bd
  have e0 : s₁.heap = h0 := by rw [← hh, Bd.state]; rfl
  have N0 := Fr.nil n0
  show own_Go p e below (own_K s (Q_min_2 Z y0 h0 n0) ({ frames := 0, cells := 0, slots := 0, locals := 0 } : Room).cells ({ frames := 0, cells := 0, slots := 0, locals := 0 } : Room).slots) (s₁.setTop (entryFrame m #[(.int y0), (.int y1)] 2))
  rw [(by first | (simp [entryFrame, mkF, argsToLocals, Value.category]; done) | rfl : entryFrame m #[(.int y0), (.int y1)] 2 = mkF m 0 #[.val (.int y0), .val (.int y1)] [])]
  show own_Go p e below _ (s₁.setTop (mkF m 0 #[.val (.int y0), .val (.int y1)] []))
  refine own_go (fun _ hr => XS.iloadN X0.here hx rfl (hb hby own_d_jdk_29_method_69_code_0) rfl (XS.iloadN X0.here hx rfl (hb hby own_d_jdk_29_method_69_code_1) rfl hr)) ?_
  show own_Go p e below _ (s₁.setTop (mkF m 2 #[.val (.int y0), .val (.int y1)] [(.int y1), (.int y0)]))
  refine own_go (fun _ hr => XS.icmpNo X0.here hx rfl (hb hby own_d_jdk_29_method_69_code_2) rfl (flt hb0).2.2.1 hr) ?_
  show own_Go p e below _ (s₁.setTop (mkF m 5 #[.val (.int y0), .val (.int y1)] []))
  refine own_go (fun _ hr => XS.iloadN X0.here hx rfl (hb hby own_d_jdk_29_method_69_code_5) rfl (XS.goto X0.here hx rfl (pc0 := 6) (pc' := 10) rfl (hb hby own_d_jdk_29_method_69_code_6) (by decide) (by decide) hr)) ?_
  show own_Go p e below _ (s₁.setTop (mkF m 10 #[.val (.int y0), .val (.int y1)] [(.int y0)]))
  exact own_retI X0 hx hlk Bd.returns (hb hby own_d_jdk_29_method_69_code_10) (by decide) (by decide) ⟨rfl, N0, e0⟩
theorem own_d_jdk_29_method_65_code_9 : decode jdk_29_method_65_code 9 = .ok (.iload_n 1, 1) := by decide +kernel
def Q_max_3 (Z : State) (y1 : Int32) (h0 : Heap) (n0 : Nat) (v : Option Value) (h : Heap) (L : List Loc) : Prop := v = some (.int y1) ∧ Fr n0 L ∧ h = h0
set_option maxRecDepth 65536 in
set_option maxHeartbeats 40000000 in
theorem rm_max_3 (l : Launch) (Z : State) (a0 : Array Value) (hw : ∀ d ∈ tables_1, d.before a0 Z = true) (ws : List Jvm.Cond) (y0 : Int32) (y1 : Int32) (h0 : Heap) (n0 : Nat) (Z0 : n0 ≤ h0.size) (hb0 : y0 < y1) :
    MetFree l (⟨"java/lang/Math", "max", "(II)I"⟩ : MethodName) (head1 (Jvm.Cond.code (⟨"java/lang/Math", "max", "(II)I"⟩ : MethodName) jdk_29_method_65_code 2 (some .int) :: ws) ({ frames := 0, cells := 0, slots := 0, locals := 0 } : Room)) (fun aA U => aA = #[(.int y0), (.int y1)] ∧ Z.Warmed39 U.vm ∧ U.heap = h0) (fun _ _ _ _ _ => True) (fun _ U o U' => ∃ v L, o = .returned v ∧ Q_max_3 Z y1 h0 n0 v U'.heap L ∧ FrameEnd U o U' L ({ frames := 0, cells := 0, slots := 0, locals := 0 } : Room).cells ({ frames := 0, cells := 0, slots := 0, locals := 0 } : Room).slots) := by
  refine MetFree.of_bodySF (Jvm.Free.JP.mathPlain rfl (by decide +kernel)) hisR ?_
  intro p e s m args below meth c s₁ Bd hml0 hP hK
  obtain ⟨rfl, hZ, hh⟩ := hP
  have hx := Bd.exec
  have hby := Bd.bytes
  have hlk : meth.locks = false := BodyLoose.notSynchronized Bd
  have hml : c.maxLocals = 2 := hml0
  have hown : s.vm.findClass "java/lang/Math" = some m.cls := findClass_of_methodNamed Bd.named
  have hnm := (name_of_methodNamed Bd.named Bd.method).1
  have X0 : Stand p l e ({ frames := 0, cells := 0, slots := 0, locals := 0 } : Room) s m #[(.int y0), (.int y1)] below meth c s₁ [] 0 0 := Stand.of_body Bd
  have e0 : s₁.heap = h0 := by rw [← hh, Bd.state]; rfl
  have N0 := Fr.nil n0
  show own_Go p e below (own_K s (Q_max_3 Z y1 h0 n0) ({ frames := 0, cells := 0, slots := 0, locals := 0 } : Room).cells ({ frames := 0, cells := 0, slots := 0, locals := 0 } : Room).slots) (s₁.setTop (entryFrame m #[(.int y0), (.int y1)] 2))
  rw [(by first | (simp [entryFrame, mkF, argsToLocals, Value.category]; done) | rfl : entryFrame m #[(.int y0), (.int y1)] 2 = mkF m 0 #[.val (.int y0), .val (.int y1)] [])]
  show own_Go p e below _ (s₁.setTop (mkF m 0 #[.val (.int y0), .val (.int y1)] []))
  refine own_go (fun _ hr => XS.iloadN X0.here hx rfl (hb hby own_d_jdk_29_method_65_code_0) rfl (XS.iloadN X0.here hx rfl (hb hby own_d_jdk_29_method_65_code_1) rfl hr)) ?_
  show own_Go p e below _ (s₁.setTop (mkF m 2 #[.val (.int y0), .val (.int y1)] [(.int y1), (.int y0)]))
  refine own_go (fun _ hr => XS.icmpYes X0.here hx rfl (pc0 := 2) (pc' := 9) rfl (hb hby own_d_jdk_29_method_65_code_2) rfl (tlt hb0).1 (by decide) (by decide) hr) ?_
  show own_Go p e below _ (s₁.setTop (mkF m 9 #[.val (.int y0), .val (.int y1)] []))
  refine own_go (fun _ hr => XS.iloadN X0.here hx rfl (hb hby own_d_jdk_29_method_65_code_9) rfl hr) ?_
  show own_Go p e below _ (s₁.setTop (mkF m 10 #[.val (.int y0), .val (.int y1)] [(.int y1)]))
  exact own_retI X0 hx hlk Bd.returns (hb hby own_d_jdk_29_method_65_code_10) (by decide) (by decide) ⟨rfl, N0, e0⟩
def Q_law (Z : State) (h0 : Heap) (n0 : Nat) (v : Option Value) (h : Heap) (L : List Loc) : Prop := v = some (.int 1) ∧ Fr n0 L
set_option maxRecDepth 65536 in
set_option maxHeartbeats 40000000 in
theorem rm_law (l : Launch) (Z : State) (a0 : Array Value) (hw : ∀ d ∈ tables_1, d.before a0 Z = true) (ws : List Jvm.Cond) (x0 : Int32) (x1 : Int32) (x2 : Int32) (h0 : Heap) (n0 : Nat) (Z0 : n0 ≤ h0.size) :
    MetFree l x (head1 (Jvm.Cond.code x code maxLocals ret :: ws) room_1) (fun aA U => aA = #[(.int x0), (.int x1), (.int x2)] ∧ Z.Warmed39 U.vm ∧ U.heap = h0) (fun _ _ _ _ _ => True) (fun _ U o U' => ∃ v L, o = .returned v ∧ Q_law Z h0 n0 v U'.heap L ∧ FrameEnd U o U' L room_1.cells room_1.slots) := by
  refine MetFree.of_bodySF (plainFor_of_name own_pn_com_example_entryway_entryway_format_SourceWellFormedUtf8PinLaw) hisR ?_
  intro p e s m args below meth c s₁ Bd hml0 hP hK
  obtain ⟨rfl, hZ, hh⟩ := hP
  have hx := Bd.exec
  have hby := Bd.bytes
  have hlk : meth.locks = false := BodyLoose.notSynchronized Bd
  have hml : c.maxLocals = 10 := hml0
  have hown : s.vm.findClass "com/example/entryway/entryway/format/SourceWellFormedUtf8PinLaw" = some m.cls := findClass_of_methodNamed Bd.named
  have hnm := (name_of_methodNamed Bd.named Bd.method).1
  have X0 : Stand p l e room_1 s m #[(.int x0), (.int x1), (.int x2)] below meth c s₁ [] 0 0 := Stand.of_body Bd
  have e0 : s₁.heap = h0 := by rw [← hh, Bd.state]; rfl
  have N0 := Fr.nil n0
  show own_Go p e below (own_K s (Q_law Z h0 n0) room_1.cells room_1.slots) (s₁.setTop (entryFrame m #[(.int x0), (.int x1), (.int x2)] maxLocals))
  rw [(by first | (simp [entryFrame, mkF, argsToLocals, Value.category, maxLocals]; done) | rfl : entryFrame m #[(.int x0), (.int x1), (.int x2)] maxLocals = mkF m 0 #[.val (.int x0), .val (.int x1), .val (.int x2), .unset, .unset, .unset, .unset, .unset, .unset, .unset] [])]
  show own_Go p e below _ (s₁.setTop (mkF m 0 #[.val (.int x0), .val (.int x1), .val (.int x2), .unset, .unset, .unset, .unset, .unset, .unset, .unset] []))
  refine own_go (fun _ hr => XS.bipush X0.here hx rfl (hb hby at_0) hr) ?_
  show own_Go p e below _ (s₁.setTop (mkF m 2 #[.val (.int x0), .val (.int x1), .val (.int x2), .unset, .unset, .unset, .unset, .unset, .unset, .unset] [(.int (6 : Int32))]))
  obtain ⟨T1, h1, k1, X1, e1, E1, A1, EA1, st1⟩ := newPE X0 hx hZ (hw _ (own_m 0 rfl)) e0 (g := (mkF m 2 #[.val (.int x0), .val (.int x1), .val (.int x2), .unset, .unset, .unset, .unset, .unset, .unset, .unset] [(.int (6 : Int32))])) rfl (hb hby at_2) rfl (by decide) (cap := 6) (by decide) (by decide) (by decide) (by decide) (ad := "[B") (by decide)
  obtain ⟨b1, g1⟩ : ∃ z, z = h0.size := ⟨_, rfl⟩
  rw [← g1] at A1 EA1 st1
  have ge2 : n0 ≤ b1 := Nat.le_trans Z0 (Nat.le_of_eq g1.symm)
  refine own_go st1 ?_
  have f3 : Arv Z h1 b1 k1 .byte (6 : Int32) [(.int (0 : Int32)), (.int (0 : Int32)), (.int (0 : Int32)), (.int (0 : Int32)), (.int (0 : Int32)), (.int (0 : Int32))] (.int (0 : Int32)) := (Arv.new A1 (by decide)).pad (pad_rep [] (.int (0 : Int32)) 6)
  show own_Go p e below _ (T1.setTop (mkF m 4 #[.val (.int x0), .val (.int x1), .val (.int x2), .unset, .unset, .unset, .unset, .unset, .unset, .unset] [(.ref b1)]))
  refine own_go (fun _ hr => XS.astoreN X1.here hx rfl (hb hby at_4) rfl rfl (l' := #[.val (.int x0), .val (.int x1), .val (.int x2), .val (.ref b1), .unset, .unset, .unset, .unset, .unset, .unset]) rfl (XS.aloadN X1.here hx rfl (hb hby at_5) rfl rfl (XS.iconst X1.here hx rfl (hb hby at_6) (XS.iloadN X1.here hx rfl (hb hby at_7) rfl (XS.i2b X1.here hx rfl (hb hby at_8) rfl hr))))) ?_
  show own_Go p e below _ (T1.setTop (mkF m 9 #[.val (.int x0), .val (.int x1), .val (.int x2), .val (.ref b1), .unset, .unset, .unset, .unset, .unset, .unset] [(.int (x0.toInt8.toInt32)), (.int (0 : Int32)), (.ref b1)]))
  generalize hy0 : (x0.toInt8.toInt32) = b_0
  have c5 : (nar .byte b_0) = b_0 := by rw [← hy0]; exact own_st8 _
  refine own_stB X1 hx hZ e1 f3 (0 : Int32) b_0 b_0 0 ⟨by decide, by decide⟩ rfl (Nat.le_of_ble_eq_true rfl) c5 [(.int b_0), (.int (0 : Int32)), (.int (0 : Int32)), (.int (0 : Int32)), (.int (0 : Int32)), (.int (0 : Int32))] rfl N0 ge2 (hb hby at_9) ?_
  intro T4 h4 L4 X4 e4 W4 N4 f4
  show own_Go p e below _ (T4.setTop (mkF m 10 #[.val (.int x0), .val (.int x1), .val (.int x2), .val (.ref b1), .unset, .unset, .unset, .unset, .unset, .unset] []))
  refine own_go (fun _ hr => XS.aloadN X4.here hx rfl (hb hby at_10) rfl rfl (XS.iconst X4.here hx rfl (hb hby at_11) (XS.iloadN X4.here hx rfl (hb hby at_12) rfl (XS.bipush X4.here hx rfl (hb hby at_13) (XS.iushr X4.here hx rfl (hb hby at_15) rfl (XS.i2b X4.here hx rfl (hb hby at_16) rfl hr)))))) ?_
  show own_Go p e below _ (T4.setTop (mkF m 17 #[.val (.int x0), .val (.int x1), .val (.int x2), .val (.ref b1), .unset, .unset, .unset, .unset, .unset, .unset] [(.int (((x0.toUInt32 >>> ((8 : Int32) &&& 31).toUInt32).toInt32).toInt8.toInt32)), (.int (1 : Int32)), (.ref b1)]))
  generalize hy1 : (((x0.toUInt32 >>> ((8 : Int32) &&& 31).toUInt32).toInt32).toInt8.toInt32) = b_1
  have c7 : (nar .byte b_1) = b_1 := by rw [← hy1]; exact own_st8 _
  refine own_stB X4 hx hZ e4 f4 (1 : Int32) b_1 b_1 1 ⟨by decide, by decide⟩ rfl (Nat.le_of_ble_eq_true rfl) c7 [(.int b_0), (.int b_1), (.int (0 : Int32)), (.int (0 : Int32)), (.int (0 : Int32)), (.int (0 : Int32))] rfl N4 ge2 (hb hby at_17) ?_
  intro T6 h6 L6 X6 e6 W6 N6 f6
  show own_Go p e below _ (T6.setTop (mkF m 18 #[.val (.int x0), .val (.int x1), .val (.int x2), .val (.ref b1), .unset, .unset, .unset, .unset, .unset, .unset] []))
  refine own_go (fun _ hr => XS.aloadN X6.here hx rfl (hb hby at_18) rfl rfl (XS.iconst X6.here hx rfl (hb hby at_19) (XS.iloadN X6.here hx rfl (hb hby at_20) rfl (XS.bipush X6.here hx rfl (hb hby at_21) (XS.iushr X6.here hx rfl (hb hby at_23) rfl (XS.i2b X6.here hx rfl (hb hby at_24) rfl hr)))))) ?_
  show own_Go p e below _ (T6.setTop (mkF m 25 #[.val (.int x0), .val (.int x1), .val (.int x2), .val (.ref b1), .unset, .unset, .unset, .unset, .unset, .unset] [(.int (((x0.toUInt32 >>> ((16 : Int32) &&& 31).toUInt32).toInt32).toInt8.toInt32)), (.int (2 : Int32)), (.ref b1)]))
  generalize hy2 : (((x0.toUInt32 >>> ((16 : Int32) &&& 31).toUInt32).toInt32).toInt8.toInt32) = b_2
  have c9 : (nar .byte b_2) = b_2 := by rw [← hy2]; exact own_st8 _
  refine own_stB X6 hx hZ e6 f6 (2 : Int32) b_2 b_2 2 ⟨by decide, by decide⟩ rfl (Nat.le_of_ble_eq_true rfl) c9 [(.int b_0), (.int b_1), (.int b_2), (.int (0 : Int32)), (.int (0 : Int32)), (.int (0 : Int32))] rfl N6 ge2 (hb hby at_25) ?_
  intro T8 h8 L8 X8 e8 W8 N8 f8
  show own_Go p e below _ (T8.setTop (mkF m 26 #[.val (.int x0), .val (.int x1), .val (.int x2), .val (.ref b1), .unset, .unset, .unset, .unset, .unset, .unset] []))
  refine own_go (fun _ hr => XS.aloadN X8.here hx rfl (hb hby at_26) rfl rfl (XS.iconst X8.here hx rfl (hb hby at_27) (XS.iloadN X8.here hx rfl (hb hby at_28) rfl (XS.bipush X8.here hx rfl (hb hby at_29) (XS.iushr X8.here hx rfl (hb hby at_31) rfl (XS.i2b X8.here hx rfl (hb hby at_32) rfl hr)))))) ?_
  show own_Go p e below _ (T8.setTop (mkF m 33 #[.val (.int x0), .val (.int x1), .val (.int x2), .val (.ref b1), .unset, .unset, .unset, .unset, .unset, .unset] [(.int (((x0.toUInt32 >>> ((24 : Int32) &&& 31).toUInt32).toInt32).toInt8.toInt32)), (.int (3 : Int32)), (.ref b1)]))
  generalize hy3 : (((x0.toUInt32 >>> ((24 : Int32) &&& 31).toUInt32).toInt32).toInt8.toInt32) = b_3
  have c11 : (nar .byte b_3) = b_3 := by rw [← hy3]; exact own_st8 _
  refine own_stB X8 hx hZ e8 f8 (3 : Int32) b_3 b_3 3 ⟨by decide, by decide⟩ rfl (Nat.le_of_ble_eq_true rfl) c11 [(.int b_0), (.int b_1), (.int b_2), (.int b_3), (.int (0 : Int32)), (.int (0 : Int32))] rfl N8 ge2 (hb hby at_33) ?_
  intro T10 h10 L10 X10 e10 W10 N10 f10
  show own_Go p e below _ (T10.setTop (mkF m 34 #[.val (.int x0), .val (.int x1), .val (.int x2), .val (.ref b1), .unset, .unset, .unset, .unset, .unset, .unset] []))
  refine own_go (fun _ hr => XS.aloadN X10.here hx rfl (hb hby at_34) rfl rfl (XS.iconst X10.here hx rfl (hb hby at_35) (XS.iloadN X10.here hx rfl (hb hby at_36) rfl (XS.i2b X10.here hx rfl (hb hby at_37) rfl hr)))) ?_
  show own_Go p e below _ (T10.setTop (mkF m 38 #[.val (.int x0), .val (.int x1), .val (.int x2), .val (.ref b1), .unset, .unset, .unset, .unset, .unset, .unset] [(.int (x1.toInt8.toInt32)), (.int (4 : Int32)), (.ref b1)]))
  generalize hy4 : (x1.toInt8.toInt32) = b_4
  have c13 : (nar .byte b_4) = b_4 := by rw [← hy4]; exact own_st8 _
  refine own_stB X10 hx hZ e10 f10 (4 : Int32) b_4 b_4 4 ⟨by decide, by decide⟩ rfl (Nat.le_of_ble_eq_true rfl) c13 [(.int b_0), (.int b_1), (.int b_2), (.int b_3), (.int b_4), (.int (0 : Int32))] rfl N10 ge2 (hb hby at_38) ?_
  intro T12 h12 L12 X12 e12 W12 N12 f12
  show own_Go p e below _ (T12.setTop (mkF m 39 #[.val (.int x0), .val (.int x1), .val (.int x2), .val (.ref b1), .unset, .unset, .unset, .unset, .unset, .unset] []))
  refine own_go (fun _ hr => XS.aloadN X12.here hx rfl (hb hby at_39) rfl rfl (XS.iconst X12.here hx rfl (hb hby at_40) (XS.iloadN X12.here hx rfl (hb hby at_41) rfl (XS.bipush X12.here hx rfl (hb hby at_42) (XS.iushr X12.here hx rfl (hb hby at_44) rfl (XS.i2b X12.here hx rfl (hb hby at_45) rfl hr)))))) ?_
  show own_Go p e below _ (T12.setTop (mkF m 46 #[.val (.int x0), .val (.int x1), .val (.int x2), .val (.ref b1), .unset, .unset, .unset, .unset, .unset, .unset] [(.int (((x1.toUInt32 >>> ((8 : Int32) &&& 31).toUInt32).toInt32).toInt8.toInt32)), (.int (5 : Int32)), (.ref b1)]))
  generalize hy5 : (((x1.toUInt32 >>> ((8 : Int32) &&& 31).toUInt32).toInt32).toInt8.toInt32) = b_5
  have c15 : (nar .byte b_5) = b_5 := by rw [← hy5]; exact own_st8 _
  refine own_stB X12 hx hZ e12 f12 (5 : Int32) b_5 b_5 5 ⟨by decide, by decide⟩ rfl (Nat.le_of_ble_eq_true rfl) c15 [(.int b_0), (.int b_1), (.int b_2), (.int b_3), (.int b_4), (.int b_5)] rfl N12 ge2 (hb hby at_46) ?_
  intro T14 h14 L14 X14 e14 W14 N14 f14
  show own_Go p e below _ (T14.setTop (mkF m 47 #[.val (.int x0), .val (.int x1), .val (.int x2), .val (.ref b1), .unset, .unset, .unset, .unset, .unset, .unset] []))
  refine own_go (fun _ hr => XS.iloadN X14.here hx rfl (hb hby at_47) rfl (XS.sipush X14.here hx rfl (hb hby at_48) (XS.iand X14.here hx rfl (hb hby at_51) rfl (XS.bipush X14.here hx rfl (hb hby at_52) hr)))) ?_
  show own_Go p e below _ (T14.setTop (mkF m 54 #[.val (.int x0), .val (.int x1), .val (.int x2), .val (.ref b1), .unset, .unset, .unset, .unset, .unset, .unset] [(.int (7 : Int32)), (.int (x2 &&& (255 : Int32)))]))
  have nz16 : (7 : Int32) ≠ (0 : Int32) := by decide
  refine own_go (fun _ hr => iremM X14 hx rfl (hb hby at_54) rfl nz16 hr) ?_
  show own_Go p e below _ (T14.setTop (mkF m 55 #[.val (.int x0), .val (.int x1), .val (.int x2), .val (.ref b1), .unset, .unset, .unset, .unset, .unset, .unset] [(.int ((x2 &&& (255 : Int32)) % (7 : Int32)))]))
  refine own_go (fun _ hr => XS.istore X14.here hx rfl (hb hby at_55) rfl (l' := #[.val (.int x0), .val (.int x1), .val (.int x2), .val (.ref b1), .val (.int ((x2 &&& (255 : Int32)) % (7 : Int32))), .unset, .unset, .unset, .unset, .unset]) rfl (XS.iloadN X14.here hx rfl (hb hby at_57) rfl (XS.bipush X14.here hx rfl (hb hby at_58) (XS.iushr X14.here hx rfl (hb hby at_60) rfl (XS.sipush X14.here hx rfl (hb hby at_61) (XS.iand X14.here hx rfl (hb hby at_64) rfl (XS.bipush X14.here hx rfl (hb hby at_65) hr))))))) ?_
  show own_Go p e below _ (T14.setTop (mkF m 67 #[.val (.int x0), .val (.int x1), .val (.int x2), .val (.ref b1), .val (.int ((x2 &&& (255 : Int32)) % (7 : Int32))), .unset, .unset, .unset, .unset, .unset] [(.int (7 : Int32)), (.int (((x2.toUInt32 >>> ((8 : Int32) &&& 31).toUInt32).toInt32) &&& (255 : Int32)))]))
  have nz17 : (7 : Int32) ≠ (0 : Int32) := by decide
  refine own_go (fun _ hr => iremM X14 hx rfl (hb hby at_67) rfl nz17 hr) ?_
  show own_Go p e below _ (T14.setTop (mkF m 68 #[.val (.int x0), .val (.int x1), .val (.int x2), .val (.ref b1), .val (.int ((x2 &&& (255 : Int32)) % (7 : Int32))), .unset, .unset, .unset, .unset, .unset] [(.int ((((x2.toUInt32 >>> ((8 : Int32) &&& 31).toUInt32).toInt32) &&& (255 : Int32)) % (7 : Int32)))]))
  refine own_go (fun _ hr => XS.istore X14.here hx rfl (hb hby at_68) rfl (l' := #[.val (.int x0), .val (.int x1), .val (.int x2), .val (.ref b1), .val (.int ((x2 &&& (255 : Int32)) % (7 : Int32))), .val (.int ((((x2.toUInt32 >>> ((8 : Int32) &&& 31).toUInt32).toInt32) &&& (255 : Int32)) % (7 : Int32))), .unset, .unset, .unset, .unset]) rfl (XS.iload X14.here hx rfl (hb hby at_70) rfl (XS.iload X14.here hx rfl (hb hby at_72) rfl hr))) ?_
  show own_Go p e below _ (T14.setTop (mkF m 74 #[.val (.int x0), .val (.int x1), .val (.int x2), .val (.ref b1), .val (.int ((x2 &&& (255 : Int32)) % (7 : Int32))), .val (.int ((((x2.toUInt32 >>> ((8 : Int32) &&& 31).toUInt32).toInt32) &&& (255 : Int32)) % (7 : Int32))), .unset, .unset, .unset, .unset] [(.int ((((x2.toUInt32 >>> ((8 : Int32) &&& 31).toUInt32).toInt32) &&& (255 : Int32)) % (7 : Int32))), (.int ((x2 &&& (255 : Int32)) % (7 : Int32)))]))
  rcases Classical.em (((((x2.toUInt32 >>> ((8 : Int32) &&& 31).toUInt32).toInt32) &&& (255 : Int32)) % (7 : Int32)) < ((x2 &&& (255 : Int32)) % (7 : Int32))) with c18 | c18
  · skip
    have Z20 := (Nat.le_trans (Nat.le_trans (Nat.le_trans (Nat.le_trans (Nat.le_trans (Nat.le_trans (Nat.le_trans Z0 E1.1) (Nat.le_of_eq W4.size.symm)) (Nat.le_of_eq W6.size.symm)) (Nat.le_of_eq W8.size.symm)) (Nat.le_of_eq W10.size.symm)) (Nat.le_of_eq W12.size.symm)) (Nat.le_of_eq W14.size.symm))
    refine own_cs X14 hx hZ hown (hw _ (own_m 1 rfl)) (hw _ (own_m 2 rfl)) (hw _ (own_m 3 rfl)) (hw _ (own_m 4 rfl)) (by decide) (rm := { frames := 0, cells := 0, slots := 0, locals := 0 }) (rm_min_0 l Z a0 hw [] ((x2 &&& (255 : Int32)) % (7 : Int32)) ((((x2.toUInt32 >>> ((8 : Int32) &&& 31).toUInt32).toInt32) &&& (255 : Int32)) % (7 : Int32)) h14 n0 Z20 c18) (by decide) (W := 0) (by decide) (by decide) (by decide) e14 (by rw [hml]; rfl) (argsL := [(.int ((x2 &&& (255 : Int32)) % (7 : Int32))), (.int ((((x2.toUInt32 >>> ((8 : Int32) &&& 31).toUInt32).toInt32) &&& (255 : Int32)) % (7 : Int32)))]) (lenOf own_pd1 rfl) (rest := []) rfl rfl (Nat.le_of_eq rfl) (hb hby at_74) ?_
    intro _ T19 L19 X19 hQ19
    obtain ⟨rfl, N19q, e19⟩ := hQ19
    have N19 := Fr.app N14 N19q
    show own_Go p e below _ (T19.setTop (mkF m 77 #[.val (.int x0), .val (.int x1), .val (.int x2), .val (.ref b1), .val (.int ((x2 &&& (255 : Int32)) % (7 : Int32))), .val (.int ((((x2.toUInt32 >>> ((8 : Int32) &&& 31).toUInt32).toInt32) &&& (255 : Int32)) % (7 : Int32))), .unset, .unset, .unset, .unset] [(.int ((((x2.toUInt32 >>> ((8 : Int32) &&& 31).toUInt32).toInt32) &&& (255 : Int32)) % (7 : Int32)))]))
    refine own_go (fun _ hr => XS.istore X19.here hx rfl (hb hby at_77) rfl (l' := #[.val (.int x0), .val (.int x1), .val (.int x2), .val (.ref b1), .val (.int ((x2 &&& (255 : Int32)) % (7 : Int32))), .val (.int ((((x2.toUInt32 >>> ((8 : Int32) &&& 31).toUInt32).toInt32) &&& (255 : Int32)) % (7 : Int32))), .val (.int ((((x2.toUInt32 >>> ((8 : Int32) &&& 31).toUInt32).toInt32) &&& (255 : Int32)) % (7 : Int32))), .unset, .unset, .unset]) rfl (XS.iload X19.here hx rfl (hb hby at_79) rfl (XS.iload X19.here hx rfl (hb hby at_81) rfl hr))) ?_
    show own_Go p e below _ (T19.setTop (mkF m 83 #[.val (.int x0), .val (.int x1), .val (.int x2), .val (.ref b1), .val (.int ((x2 &&& (255 : Int32)) % (7 : Int32))), .val (.int ((((x2.toUInt32 >>> ((8 : Int32) &&& 31).toUInt32).toInt32) &&& (255 : Int32)) % (7 : Int32))), .val (.int ((((x2.toUInt32 >>> ((8 : Int32) &&& 31).toUInt32).toInt32) &&& (255 : Int32)) % (7 : Int32))), .unset, .unset, .unset] [(.int ((((x2.toUInt32 >>> ((8 : Int32) &&& 31).toUInt32).toInt32) &&& (255 : Int32)) % (7 : Int32))), (.int ((x2 &&& (255 : Int32)) % (7 : Int32)))]))
    have c21 : ¬ (((x2 &&& (255 : Int32)) % (7 : Int32)) < ((((x2.toUInt32 >>> ((8 : Int32) &&& 31).toUInt32).toInt32) &&& (255 : Int32)) % (7 : Int32))) := by
      have q0 := rng32 x2
      have q1 := c_iushr x2 (8 : Int32) 8 (by decide) (by decide)
      have q2 := c_mask ((x2.toUInt32 >>> ((8 : Int32) &&& 31).toUInt32).toInt32) (255 : Int32) 8 (by decide) (by decide)
      have q3 := c_irem (((x2.toUInt32 >>> ((8 : Int32) &&& 31).toUInt32).toInt32) &&& (255 : Int32)) (7 : Int32) 7 (by decide)
      have q4 := c_mask x2 (255 : Int32) 8 (by decide) (by decide)
      have q5 := c_irem (x2 &&& (255 : Int32)) (7 : Int32) 7 (by decide)
      have p0 := c18
      simp only [true_implies, Int32.lt_iff_toInt_lt, ← Int32.toInt_inj, Int32.reduceToInt, Int64.lt_iff_toInt_lt, ← Int64.toInt_inj, Int64.reduceToInt] at q0 q1 q2 q3 q4 q5 p0 ⊢
      omega
    refine own_cs X19 hx hZ hown (hw _ (own_m 5 rfl)) (hw _ (own_m 6 rfl)) (hw _ (own_m 3 rfl)) (hw _ (own_m 7 rfl)) (by decide) (rm := { frames := 0, cells := 0, slots := 0, locals := 0 }) (rm_max_1 l Z a0 hw [] ((x2 &&& (255 : Int32)) % (7 : Int32)) ((((x2.toUInt32 >>> ((8 : Int32) &&& 31).toUInt32).toInt32) &&& (255 : Int32)) % (7 : Int32)) h14 n0 Z20 c21) (by decide) (W := 0) (by decide) (by decide) (by decide) e19 (by rw [hml]; rfl) (argsL := [(.int ((x2 &&& (255 : Int32)) % (7 : Int32))), (.int ((((x2.toUInt32 >>> ((8 : Int32) &&& 31).toUInt32).toInt32) &&& (255 : Int32)) % (7 : Int32)))]) (lenOf own_pd1 rfl) (rest := []) rfl rfl (Nat.le_of_eq rfl) (hb hby at_83) ?_
    intro _ T22 L22 X22 hQ22
    obtain ⟨rfl, N22q, e22⟩ := hQ22
    have N22 := Fr.app N19 N22q
    show own_Go p e below _ (T22.setTop (mkF m 86 #[.val (.int x0), .val (.int x1), .val (.int x2), .val (.ref b1), .val (.int ((x2 &&& (255 : Int32)) % (7 : Int32))), .val (.int ((((x2.toUInt32 >>> ((8 : Int32) &&& 31).toUInt32).toInt32) &&& (255 : Int32)) % (7 : Int32))), .val (.int ((((x2.toUInt32 >>> ((8 : Int32) &&& 31).toUInt32).toInt32) &&& (255 : Int32)) % (7 : Int32))), .unset, .unset, .unset] [(.int ((x2 &&& (255 : Int32)) % (7 : Int32)))]))
    refine own_go (fun _ hr => XS.istore X22.here hx rfl (hb hby at_86) rfl (l' := #[.val (.int x0), .val (.int x1), .val (.int x2), .val (.ref b1), .val (.int ((x2 &&& (255 : Int32)) % (7 : Int32))), .val (.int ((((x2.toUInt32 >>> ((8 : Int32) &&& 31).toUInt32).toInt32) &&& (255 : Int32)) % (7 : Int32))), .val (.int ((((x2.toUInt32 >>> ((8 : Int32) &&& 31).toUInt32).toInt32) &&& (255 : Int32)) % (7 : Int32))), .val (.int ((x2 &&& (255 : Int32)) % (7 : Int32))), .unset, .unset]) rfl hr) ?_
    show own_Go p e below _ (T22.setTop (mkF m 88 #[.val (.int x0), .val (.int x1), .val (.int x2), .val (.ref b1), .val (.int ((x2 &&& (255 : Int32)) % (7 : Int32))), .val (.int ((((x2.toUInt32 >>> ((8 : Int32) &&& 31).toUInt32).toInt32) &&& (255 : Int32)) % (7 : Int32))), .val (.int ((((x2.toUInt32 >>> ((8 : Int32) &&& 31).toUInt32).toInt32) &&& (255 : Int32)) % (7 : Int32))), .val (.int ((x2 &&& (255 : Int32)) % (7 : Int32))), .unset, .unset] []))
    have hb6 : 0 ≤ (((((x2.toUInt32 >>> ((8 : Int32) &&& 31).toUInt32).toInt32) &&& (255 : Int32)) % (7 : Int32))).toInt ∧ (((((x2.toUInt32 >>> ((8 : Int32) &&& 31).toUInt32).toInt32) &&& (255 : Int32)) % (7 : Int32))).toInt ≤ (((x2 &&& (255 : Int32)) % (7 : Int32))).toInt ∧ (((x2 &&& (255 : Int32)) % (7 : Int32))).toInt ≤ 6 := by
      have q0 := rng32 x2
      have q1 := c_iushr x2 (8 : Int32) 8 (by decide) (by decide)
      have q2 := c_mask ((x2.toUInt32 >>> ((8 : Int32) &&& 31).toUInt32).toInt32) (255 : Int32) 8 (by decide) (by decide)
      have q3 := c_irem (((x2.toUInt32 >>> ((8 : Int32) &&& 31).toUInt32).toInt32) &&& (255 : Int32)) (7 : Int32) 7 (by decide)
      have q4 := c_mask x2 (255 : Int32) 8 (by decide) (by decide)
      have q5 := c_irem (x2 &&& (255 : Int32)) (7 : Int32) 7 (by decide)
      have p6 := c18
      have p7 := c21
      simp only [true_implies, Int32.lt_iff_toInt_lt, ← Int32.toInt_inj, Int32.reduceToInt, Int64.lt_iff_toInt_lt, ← Int64.toInt_inj, Int64.reduceToInt] at q0 q1 q2 q3 q4 q5 p6 p7 ⊢
      omega
    generalize hfrm : ((((x2.toUInt32 >>> ((8 : Int32) &&& 31).toUInt32).toInt32) &&& (255 : Int32)) % (7 : Int32)) = frm
    generalize htoo : ((x2 &&& (255 : Int32)) % (7 : Int32)) = too
    rw [hfrm] at hb6
    rw [htoo] at hb6
    refine own_go (fun _ hr => XS.iload X22.here hx rfl (hb hby at_88) rfl (XS.istore X22.here hx rfl (hb hby at_90) rfl (l' := #[.val (.int x0), .val (.int x1), .val (.int x2), .val (.ref b1), .val (.int too), .val (.int frm), .val (.int frm), .val (.int too), .val (.int frm), .unset]) rfl (XS.aloadN X22.here hx rfl (hb hby at_92) rfl rfl (XS.iload X22.here hx rfl (hb hby at_93) rfl (XS.iload X22.here hx rfl (hb hby at_95) rfl hr))))) ?_
    show own_Go p e below _ (T22.setTop (mkF m 97 #[.val (.int x0), .val (.int x1), .val (.int x2), .val (.ref b1), .val (.int too), .val (.int frm), .val (.int frm), .val (.int too), .val (.int frm), .unset] [(.int too), (.int frm), (.ref b1)]))
    refine own_cs X22 hx hZ hown (hw _ (own_m 8 rfl)) (hw _ (own_m 9 rfl)) (hw _ (own_m 10 rfl)) (hw _ (own_m 11 rfl)) (by decide) (rm := { frames := 1, cells := 0, slots := 0, locals := 14 }) (rm_step l Z a0 hw [] b1 k1 b_0 b_1 b_2 b_3 b_4 b_5 frm too h14 n0 Z20 f14 hb6.2.2) (by decide) (W := 0) (by decide) (by decide) (by decide) e22 (by rw [hml]; rfl) (argsL := [(.ref b1), (.int frm), (.int too)]) (lenOf own_pd2 rfl) (rest := []) rfl rfl (Nat.le_of_eq rfl) (hb hby at_97) ?_
    intro _ T23 L23 X23 hQ23
    obtain ⟨rfl, N23q, e23⟩ := hQ23
    have N23 := Fr.app N22 N23q
    show own_Go p e below _ (T23.setTop (mkF m 100 #[.val (.int x0), .val (.int x1), .val (.int x2), .val (.ref b1), .val (.int too), .val (.int frm), .val (.int frm), .val (.int too), .val (.int frm), .unset] [(.int (own_step b_0 b_1 b_2 b_3 b_4 b_5 frm too))]))
    refine own_go (fun _ hr => XS.istore X23.here hx rfl (hb hby at_100) rfl (l' := #[.val (.int x0), .val (.int x1), .val (.int x2), .val (.ref b1), .val (.int too), .val (.int frm), .val (.int frm), .val (.int too), .val (.int (own_step b_0 b_1 b_2 b_3 b_4 b_5 frm too)), .unset]) rfl hr) ?_
    show own_Go p e below _ (T23.setTop (mkF m 102 #[.val (.int x0), .val (.int x1), .val (.int x2), .val (.ref b1), .val (.int too), .val (.int frm), .val (.int frm), .val (.int too), .val (.int (own_step b_0 b_1 b_2 b_3 b_4 b_5 frm too)), .unset] []))
    generalize hs1 : (own_step b_0 b_1 b_2 b_3 b_4 b_5 frm too) = s_1
    refine own_go (fun _ hr => XS.aloadN X23.here hx rfl (hb hby at_102) rfl rfl (XS.iload X23.here hx rfl (hb hby at_103) rfl (XS.iload X23.here hx rfl (hb hby at_105) rfl hr))) ?_
    show own_Go p e below _ (T23.setTop (mkF m 107 #[.val (.int x0), .val (.int x1), .val (.int x2), .val (.ref b1), .val (.int too), .val (.int frm), .val (.int frm), .val (.int too), .val (.int s_1), .unset] [(.int too), (.int s_1), (.ref b1)]))
    refine own_cs X23 hx hZ hown (hw _ (own_m 8 rfl)) (hw _ (own_m 9 rfl)) (hw _ (own_m 10 rfl)) (hw _ (own_m 11 rfl)) (by decide) (rm := { frames := 1, cells := 0, slots := 0, locals := 14 }) (rm_step l Z a0 hw [] b1 k1 b_0 b_1 b_2 b_3 b_4 b_5 s_1 too h14 n0 Z20 f14 hb6.2.2) (by decide) (W := 0) (by decide) (by decide) (by decide) e23 (by rw [hml]; rfl) (argsL := [(.ref b1), (.int s_1), (.int too)]) (lenOf own_pd2 rfl) (rest := []) rfl rfl (Nat.le_of_eq rfl) (hb hby at_107) ?_
    intro _ T24 L24 X24 hQ24
    obtain ⟨rfl, N24q, e24⟩ := hQ24
    have N24 := Fr.app N23 N24q
    show own_Go p e below _ (T24.setTop (mkF m 110 #[.val (.int x0), .val (.int x1), .val (.int x2), .val (.ref b1), .val (.int too), .val (.int frm), .val (.int frm), .val (.int too), .val (.int s_1), .unset] [(.int (own_step b_0 b_1 b_2 b_3 b_4 b_5 s_1 too))]))
    refine own_go (fun _ hr => XS.istore X24.here hx rfl (hb hby at_110) rfl (l' := #[.val (.int x0), .val (.int x1), .val (.int x2), .val (.ref b1), .val (.int too), .val (.int frm), .val (.int frm), .val (.int too), .val (.int (own_step b_0 b_1 b_2 b_3 b_4 b_5 s_1 too)), .unset]) rfl hr) ?_
    show own_Go p e below _ (T24.setTop (mkF m 112 #[.val (.int x0), .val (.int x1), .val (.int x2), .val (.ref b1), .val (.int too), .val (.int frm), .val (.int frm), .val (.int too), .val (.int (own_step b_0 b_1 b_2 b_3 b_4 b_5 s_1 too)), .unset] []))
    generalize hs2 : (own_step b_0 b_1 b_2 b_3 b_4 b_5 s_1 too) = s_2
    refine own_go (fun _ hr => XS.aloadN X24.here hx rfl (hb hby at_112) rfl rfl (XS.iload X24.here hx rfl (hb hby at_113) rfl (XS.iload X24.here hx rfl (hb hby at_115) rfl hr))) ?_
    show own_Go p e below _ (T24.setTop (mkF m 117 #[.val (.int x0), .val (.int x1), .val (.int x2), .val (.ref b1), .val (.int too), .val (.int frm), .val (.int frm), .val (.int too), .val (.int s_2), .unset] [(.int too), (.int s_2), (.ref b1)]))
    refine own_cs X24 hx hZ hown (hw _ (own_m 8 rfl)) (hw _ (own_m 9 rfl)) (hw _ (own_m 10 rfl)) (hw _ (own_m 11 rfl)) (by decide) (rm := { frames := 1, cells := 0, slots := 0, locals := 14 }) (rm_step l Z a0 hw [] b1 k1 b_0 b_1 b_2 b_3 b_4 b_5 s_2 too h14 n0 Z20 f14 hb6.2.2) (by decide) (W := 0) (by decide) (by decide) (by decide) e24 (by rw [hml]; rfl) (argsL := [(.ref b1), (.int s_2), (.int too)]) (lenOf own_pd2 rfl) (rest := []) rfl rfl (Nat.le_of_eq rfl) (hb hby at_117) ?_
    intro _ T25 L25 X25 hQ25
    obtain ⟨rfl, N25q, e25⟩ := hQ25
    have N25 := Fr.app N24 N25q
    show own_Go p e below _ (T25.setTop (mkF m 120 #[.val (.int x0), .val (.int x1), .val (.int x2), .val (.ref b1), .val (.int too), .val (.int frm), .val (.int frm), .val (.int too), .val (.int s_2), .unset] [(.int (own_step b_0 b_1 b_2 b_3 b_4 b_5 s_2 too))]))
    refine own_go (fun _ hr => XS.istore X25.here hx rfl (hb hby at_120) rfl (l' := #[.val (.int x0), .val (.int x1), .val (.int x2), .val (.ref b1), .val (.int too), .val (.int frm), .val (.int frm), .val (.int too), .val (.int (own_step b_0 b_1 b_2 b_3 b_4 b_5 s_2 too)), .unset]) rfl hr) ?_
    show own_Go p e below _ (T25.setTop (mkF m 122 #[.val (.int x0), .val (.int x1), .val (.int x2), .val (.ref b1), .val (.int too), .val (.int frm), .val (.int frm), .val (.int too), .val (.int (own_step b_0 b_1 b_2 b_3 b_4 b_5 s_2 too)), .unset] []))
    generalize hs3 : (own_step b_0 b_1 b_2 b_3 b_4 b_5 s_2 too) = s_3
    refine own_go (fun _ hr => XS.aloadN X25.here hx rfl (hb hby at_122) rfl rfl (XS.iload X25.here hx rfl (hb hby at_123) rfl (XS.iload X25.here hx rfl (hb hby at_125) rfl hr))) ?_
    show own_Go p e below _ (T25.setTop (mkF m 127 #[.val (.int x0), .val (.int x1), .val (.int x2), .val (.ref b1), .val (.int too), .val (.int frm), .val (.int frm), .val (.int too), .val (.int s_3), .unset] [(.int too), (.int s_3), (.ref b1)]))
    refine own_cs X25 hx hZ hown (hw _ (own_m 8 rfl)) (hw _ (own_m 9 rfl)) (hw _ (own_m 10 rfl)) (hw _ (own_m 11 rfl)) (by decide) (rm := { frames := 1, cells := 0, slots := 0, locals := 14 }) (rm_step l Z a0 hw [] b1 k1 b_0 b_1 b_2 b_3 b_4 b_5 s_3 too h14 n0 Z20 f14 hb6.2.2) (by decide) (W := 0) (by decide) (by decide) (by decide) e25 (by rw [hml]; rfl) (argsL := [(.ref b1), (.int s_3), (.int too)]) (lenOf own_pd2 rfl) (rest := []) rfl rfl (Nat.le_of_eq rfl) (hb hby at_127) ?_
    intro _ T26 L26 X26 hQ26
    obtain ⟨rfl, N26q, e26⟩ := hQ26
    have N26 := Fr.app N25 N26q
    show own_Go p e below _ (T26.setTop (mkF m 130 #[.val (.int x0), .val (.int x1), .val (.int x2), .val (.ref b1), .val (.int too), .val (.int frm), .val (.int frm), .val (.int too), .val (.int s_3), .unset] [(.int (own_step b_0 b_1 b_2 b_3 b_4 b_5 s_3 too))]))
    refine own_go (fun _ hr => XS.istore X26.here hx rfl (hb hby at_130) rfl (l' := #[.val (.int x0), .val (.int x1), .val (.int x2), .val (.ref b1), .val (.int too), .val (.int frm), .val (.int frm), .val (.int too), .val (.int (own_step b_0 b_1 b_2 b_3 b_4 b_5 s_3 too)), .unset]) rfl hr) ?_
    show own_Go p e below _ (T26.setTop (mkF m 132 #[.val (.int x0), .val (.int x1), .val (.int x2), .val (.ref b1), .val (.int too), .val (.int frm), .val (.int frm), .val (.int too), .val (.int (own_step b_0 b_1 b_2 b_3 b_4 b_5 s_3 too)), .unset] []))
    generalize hs4 : (own_step b_0 b_1 b_2 b_3 b_4 b_5 s_3 too) = s_4
    refine own_go (fun _ hr => XS.aloadN X26.here hx rfl (hb hby at_132) rfl rfl (XS.iload X26.here hx rfl (hb hby at_133) rfl (XS.iload X26.here hx rfl (hb hby at_135) rfl hr))) ?_
    show own_Go p e below _ (T26.setTop (mkF m 137 #[.val (.int x0), .val (.int x1), .val (.int x2), .val (.ref b1), .val (.int too), .val (.int frm), .val (.int frm), .val (.int too), .val (.int s_4), .unset] [(.int too), (.int s_4), (.ref b1)]))
    refine own_cs X26 hx hZ hown (hw _ (own_m 8 rfl)) (hw _ (own_m 9 rfl)) (hw _ (own_m 10 rfl)) (hw _ (own_m 11 rfl)) (by decide) (rm := { frames := 1, cells := 0, slots := 0, locals := 14 }) (rm_step l Z a0 hw [] b1 k1 b_0 b_1 b_2 b_3 b_4 b_5 s_4 too h14 n0 Z20 f14 hb6.2.2) (by decide) (W := 0) (by decide) (by decide) (by decide) e26 (by rw [hml]; rfl) (argsL := [(.ref b1), (.int s_4), (.int too)]) (lenOf own_pd2 rfl) (rest := []) rfl rfl (Nat.le_of_eq rfl) (hb hby at_137) ?_
    intro _ T27 L27 X27 hQ27
    obtain ⟨rfl, N27q, e27⟩ := hQ27
    have N27 := Fr.app N26 N27q
    show own_Go p e below _ (T27.setTop (mkF m 140 #[.val (.int x0), .val (.int x1), .val (.int x2), .val (.ref b1), .val (.int too), .val (.int frm), .val (.int frm), .val (.int too), .val (.int s_4), .unset] [(.int (own_step b_0 b_1 b_2 b_3 b_4 b_5 s_4 too))]))
    refine own_go (fun _ hr => XS.istore X27.here hx rfl (hb hby at_140) rfl (l' := #[.val (.int x0), .val (.int x1), .val (.int x2), .val (.ref b1), .val (.int too), .val (.int frm), .val (.int frm), .val (.int too), .val (.int (own_step b_0 b_1 b_2 b_3 b_4 b_5 s_4 too)), .unset]) rfl hr) ?_
    show own_Go p e below _ (T27.setTop (mkF m 142 #[.val (.int x0), .val (.int x1), .val (.int x2), .val (.ref b1), .val (.int too), .val (.int frm), .val (.int frm), .val (.int too), .val (.int (own_step b_0 b_1 b_2 b_3 b_4 b_5 s_4 too)), .unset] []))
    generalize hs5 : (own_step b_0 b_1 b_2 b_3 b_4 b_5 s_4 too) = s_5
    refine own_go (fun _ hr => XS.aloadN X27.here hx rfl (hb hby at_142) rfl rfl (XS.iload X27.here hx rfl (hb hby at_143) rfl (XS.iload X27.here hx rfl (hb hby at_145) rfl hr))) ?_
    show own_Go p e below _ (T27.setTop (mkF m 147 #[.val (.int x0), .val (.int x1), .val (.int x2), .val (.ref b1), .val (.int too), .val (.int frm), .val (.int frm), .val (.int too), .val (.int s_5), .unset] [(.int too), (.int s_5), (.ref b1)]))
    refine own_cs X27 hx hZ hown (hw _ (own_m 8 rfl)) (hw _ (own_m 9 rfl)) (hw _ (own_m 10 rfl)) (hw _ (own_m 11 rfl)) (by decide) (rm := { frames := 1, cells := 0, slots := 0, locals := 14 }) (rm_step l Z a0 hw [] b1 k1 b_0 b_1 b_2 b_3 b_4 b_5 s_5 too h14 n0 Z20 f14 hb6.2.2) (by decide) (W := 0) (by decide) (by decide) (by decide) e27 (by rw [hml]; rfl) (argsL := [(.ref b1), (.int s_5), (.int too)]) (lenOf own_pd2 rfl) (rest := []) rfl rfl (Nat.le_of_eq rfl) (hb hby at_147) ?_
    intro _ T28 L28 X28 hQ28
    obtain ⟨rfl, N28q, e28⟩ := hQ28
    have N28 := Fr.app N27 N28q
    show own_Go p e below _ (T28.setTop (mkF m 150 #[.val (.int x0), .val (.int x1), .val (.int x2), .val (.ref b1), .val (.int too), .val (.int frm), .val (.int frm), .val (.int too), .val (.int s_5), .unset] [(.int (own_step b_0 b_1 b_2 b_3 b_4 b_5 s_5 too))]))
    refine own_go (fun _ hr => XS.istore X28.here hx rfl (hb hby at_150) rfl (l' := #[.val (.int x0), .val (.int x1), .val (.int x2), .val (.ref b1), .val (.int too), .val (.int frm), .val (.int frm), .val (.int too), .val (.int (own_step b_0 b_1 b_2 b_3 b_4 b_5 s_5 too)), .unset]) rfl hr) ?_
    show own_Go p e below _ (T28.setTop (mkF m 152 #[.val (.int x0), .val (.int x1), .val (.int x2), .val (.ref b1), .val (.int too), .val (.int frm), .val (.int frm), .val (.int too), .val (.int (own_step b_0 b_1 b_2 b_3 b_4 b_5 s_5 too)), .unset] []))
    generalize hs6 : (own_step b_0 b_1 b_2 b_3 b_4 b_5 s_5 too) = s_6
    refine own_go (fun _ hr => XS.iload X28.here hx rfl (hb hby at_152) rfl (XS.iload X28.here hx rfl (hb hby at_154) rfl hr)) ?_
    show own_Go p e below _ (T28.setTop (mkF m 156 #[.val (.int x0), .val (.int x1), .val (.int x2), .val (.ref b1), .val (.int too), .val (.int frm), .val (.int frm), .val (.int too), .val (.int s_6), .unset] [(.int too), (.int s_6)]))
    rcases Classical.em (s_6 = too) with c29 | c29
    · skip
      refine own_go (fun _ hr => XS.icmpNo X28.here hx rfl (hb hby at_156) rfl (teq c29).2 hr) ?_
      show own_Go p e below _ (T28.setTop (mkF m 159 #[.val (.int x0), .val (.int x1), .val (.int x2), .val (.ref b1), .val (.int too), .val (.int frm), .val (.int frm), .val (.int too), .val (.int s_6), .unset] []))
      refine own_go (fun _ hr => XS.iconst X28.here hx rfl (hb hby at_159) (XS.goto X28.here hx rfl (pc0 := 160) (pc' := 164) rfl (hb hby at_160) (by decide) (by decide) (XS.istore X28.here hx rfl (hb hby at_164) rfl (l' := #[.val (.int x0), .val (.int x1), .val (.int x2), .val (.ref b1), .val (.int too), .val (.int frm), .val (.int frm), .val (.int too), .val (.int s_6), .val (.int (1 : Int32))]) rfl (XS.aloadN X28.here hx rfl (hb hby at_166) rfl rfl (XS.iload X28.here hx rfl (hb hby at_167) rfl (XS.iload X28.here hx rfl (hb hby at_169) rfl hr)))))) ?_
      show own_Go p e below _ (T28.setTop (mkF m 171 #[.val (.int x0), .val (.int x1), .val (.int x2), .val (.ref b1), .val (.int too), .val (.int frm), .val (.int frm), .val (.int too), .val (.int s_6), .val (.int (1 : Int32))] [(.int too), (.int frm), (.ref b1)]))
      refine own_cs X28 hx hZ hown (hw _ (own_m 12 rfl)) (hw _ (own_m 13 rfl)) (hw _ (own_m 14 rfl)) (hw _ (own_m 15 rfl)) (by decide) (rm := { frames := 0, cells := 0, slots := 0, locals := 0 }) (rm_wf l Z a0 hw [] b1 k1 b_0 b_1 b_2 b_3 b_4 b_5 frm too h14 n0 Z20 f14 hb6.2.2 ⟨hb6.1, hb6.2.1⟩) (by decide) (W := 0) (by decide) (by decide) (by decide) e28 (by rw [hml]; rfl) (argsL := [(.ref b1), (.int frm), (.int too)]) (lenOf own_pd3 rfl) (rest := []) rfl rfl (Nat.le_of_eq rfl) (hb hby at_171) ?_
      intro _ T30 L30 X30 hQ30
      obtain ⟨rfl, N30q, e30⟩ := hQ30
      have N30 := Fr.app N28 N30q
      show own_Go p e below _ (T30.setTop (mkF m 174 #[.val (.int x0), .val (.int x1), .val (.int x2), .val (.ref b1), .val (.int too), .val (.int frm), .val (.int frm), .val (.int too), .val (.int s_6), .val (.int (1 : Int32))] [(.int (own_wf b_0 b_1 b_2 b_3 b_4 b_5 too 6 frm))]))
      refine own_go (fun _ hr => XS.iload X30.here hx rfl (hb hby at_174) rfl hr) ?_
      show own_Go p e below _ (T30.setTop (mkF m 176 #[.val (.int x0), .val (.int x1), .val (.int x2), .val (.ref b1), .val (.int too), .val (.int frm), .val (.int frm), .val (.int too), .val (.int s_6), .val (.int (1 : Int32))] [(.int (1 : Int32)), (.int (own_wf b_0 b_1 b_2 b_3 b_4 b_5 too 6 frm))]))
      have c31 : (own_wf b_0 b_1 b_2 b_3 b_4 b_5 too 6 frm) = (1 : Int32) := (own_final b_0 b_1 b_2 b_3 b_4 b_5 frm too hb6.1 hb6.2.1 hb6.2.2 s_1 s_2 s_3 s_4 s_5 s_6 hs1 hs2 hs3 hs4 hs5 hs6).1 c29
      refine own_go (fun _ hr => XS.icmpNo X30.here hx rfl (hb hby at_176) rfl (teq c31).2 hr) ?_
      show own_Go p e below _ (T30.setTop (mkF m 179 #[.val (.int x0), .val (.int x1), .val (.int x2), .val (.ref b1), .val (.int too), .val (.int frm), .val (.int frm), .val (.int too), .val (.int s_6), .val (.int (1 : Int32))] []))
      refine own_go (fun _ hr => XS.iconst X30.here hx rfl (hb hby at_179) (XS.goto X30.here hx rfl (pc0 := 180) (pc' := 184) rfl (hb hby at_180) (by decide) (by decide) hr)) ?_
      show own_Go p e below _ (T30.setTop (mkF m 184 #[.val (.int x0), .val (.int x1), .val (.int x2), .val (.ref b1), .val (.int too), .val (.int frm), .val (.int frm), .val (.int too), .val (.int s_6), .val (.int (1 : Int32))] [(.int (1 : Int32))]))
      exact own_retN X30 hx hlk Bd.returns (t := .boolean) (by simp) (hb hby at_184) (by decide) (by decide) ⟨rfl, N30⟩
    refine own_go (fun _ hr => XS.icmpYes X28.here hx rfl (pc0 := 156) (pc' := 163) rfl (hb hby at_156) rfl (feq c29).2 (by decide) (by decide) hr) ?_
    show own_Go p e below _ (T28.setTop (mkF m 163 #[.val (.int x0), .val (.int x1), .val (.int x2), .val (.ref b1), .val (.int too), .val (.int frm), .val (.int frm), .val (.int too), .val (.int s_6), .unset] []))
    refine own_go (fun _ hr => XS.iconst X28.here hx rfl (hb hby at_163) (XS.istore X28.here hx rfl (hb hby at_164) rfl (l' := #[.val (.int x0), .val (.int x1), .val (.int x2), .val (.ref b1), .val (.int too), .val (.int frm), .val (.int frm), .val (.int too), .val (.int s_6), .val (.int (0 : Int32))]) rfl (XS.aloadN X28.here hx rfl (hb hby at_166) rfl rfl (XS.iload X28.here hx rfl (hb hby at_167) rfl (XS.iload X28.here hx rfl (hb hby at_169) rfl hr))))) ?_
    show own_Go p e below _ (T28.setTop (mkF m 171 #[.val (.int x0), .val (.int x1), .val (.int x2), .val (.ref b1), .val (.int too), .val (.int frm), .val (.int frm), .val (.int too), .val (.int s_6), .val (.int (0 : Int32))] [(.int too), (.int frm), (.ref b1)]))
    refine own_cs X28 hx hZ hown (hw _ (own_m 12 rfl)) (hw _ (own_m 13 rfl)) (hw _ (own_m 14 rfl)) (hw _ (own_m 15 rfl)) (by decide) (rm := { frames := 0, cells := 0, slots := 0, locals := 0 }) (rm_wf l Z a0 hw [] b1 k1 b_0 b_1 b_2 b_3 b_4 b_5 frm too h14 n0 Z20 f14 hb6.2.2 ⟨hb6.1, hb6.2.1⟩) (by decide) (W := 0) (by decide) (by decide) (by decide) e28 (by rw [hml]; rfl) (argsL := [(.ref b1), (.int frm), (.int too)]) (lenOf own_pd3 rfl) (rest := []) rfl rfl (Nat.le_of_eq rfl) (hb hby at_171) ?_
    intro _ T32 L32 X32 hQ32
    obtain ⟨rfl, N32q, e32⟩ := hQ32
    have N32 := Fr.app N28 N32q
    show own_Go p e below _ (T32.setTop (mkF m 174 #[.val (.int x0), .val (.int x1), .val (.int x2), .val (.ref b1), .val (.int too), .val (.int frm), .val (.int frm), .val (.int too), .val (.int s_6), .val (.int (0 : Int32))] [(.int (own_wf b_0 b_1 b_2 b_3 b_4 b_5 too 6 frm))]))
    refine own_go (fun _ hr => XS.iload X32.here hx rfl (hb hby at_174) rfl hr) ?_
    show own_Go p e below _ (T32.setTop (mkF m 176 #[.val (.int x0), .val (.int x1), .val (.int x2), .val (.ref b1), .val (.int too), .val (.int frm), .val (.int frm), .val (.int too), .val (.int s_6), .val (.int (0 : Int32))] [(.int (0 : Int32)), (.int (own_wf b_0 b_1 b_2 b_3 b_4 b_5 too 6 frm))]))
    have c33 : (own_wf b_0 b_1 b_2 b_3 b_4 b_5 too 6 frm) = (0 : Int32) := (own_final b_0 b_1 b_2 b_3 b_4 b_5 frm too hb6.1 hb6.2.1 hb6.2.2 s_1 s_2 s_3 s_4 s_5 s_6 hs1 hs2 hs3 hs4 hs5 hs6).2 c29
    refine own_go (fun _ hr => XS.icmpNo X32.here hx rfl (hb hby at_176) rfl (teq c33).2 hr) ?_
    show own_Go p e below _ (T32.setTop (mkF m 179 #[.val (.int x0), .val (.int x1), .val (.int x2), .val (.ref b1), .val (.int too), .val (.int frm), .val (.int frm), .val (.int too), .val (.int s_6), .val (.int (0 : Int32))] []))
    refine own_go (fun _ hr => XS.iconst X32.here hx rfl (hb hby at_179) (XS.goto X32.here hx rfl (pc0 := 180) (pc' := 184) rfl (hb hby at_180) (by decide) (by decide) hr)) ?_
    show own_Go p e below _ (T32.setTop (mkF m 184 #[.val (.int x0), .val (.int x1), .val (.int x2), .val (.ref b1), .val (.int too), .val (.int frm), .val (.int frm), .val (.int too), .val (.int s_6), .val (.int (0 : Int32))] [(.int (1 : Int32))]))
    exact own_retN X32 hx hlk Bd.returns (t := .boolean) (by simp) (hb hby at_184) (by decide) (by decide) ⟨rfl, N32⟩
  have Z35 := (Nat.le_trans (Nat.le_trans (Nat.le_trans (Nat.le_trans (Nat.le_trans (Nat.le_trans (Nat.le_trans Z0 E1.1) (Nat.le_of_eq W4.size.symm)) (Nat.le_of_eq W6.size.symm)) (Nat.le_of_eq W8.size.symm)) (Nat.le_of_eq W10.size.symm)) (Nat.le_of_eq W12.size.symm)) (Nat.le_of_eq W14.size.symm))
  refine own_cs X14 hx hZ hown (hw _ (own_m 1 rfl)) (hw _ (own_m 2 rfl)) (hw _ (own_m 3 rfl)) (hw _ (own_m 4 rfl)) (by decide) (rm := { frames := 0, cells := 0, slots := 0, locals := 0 }) (rm_min_2 l Z a0 hw [] ((x2 &&& (255 : Int32)) % (7 : Int32)) ((((x2.toUInt32 >>> ((8 : Int32) &&& 31).toUInt32).toInt32) &&& (255 : Int32)) % (7 : Int32)) h14 n0 Z35 c18) (by decide) (W := 0) (by decide) (by decide) (by decide) e14 (by rw [hml]; rfl) (argsL := [(.int ((x2 &&& (255 : Int32)) % (7 : Int32))), (.int ((((x2.toUInt32 >>> ((8 : Int32) &&& 31).toUInt32).toInt32) &&& (255 : Int32)) % (7 : Int32)))]) (lenOf own_pd1 rfl) (rest := []) rfl rfl (Nat.le_of_eq rfl) (hb hby at_74) ?_
  intro _ T34 L34 X34 hQ34
  obtain ⟨rfl, N34q, e34⟩ := hQ34
  have N34 := Fr.app N14 N34q
  show own_Go p e below _ (T34.setTop (mkF m 77 #[.val (.int x0), .val (.int x1), .val (.int x2), .val (.ref b1), .val (.int ((x2 &&& (255 : Int32)) % (7 : Int32))), .val (.int ((((x2.toUInt32 >>> ((8 : Int32) &&& 31).toUInt32).toInt32) &&& (255 : Int32)) % (7 : Int32))), .unset, .unset, .unset, .unset] [(.int ((x2 &&& (255 : Int32)) % (7 : Int32)))]))
  refine own_go (fun _ hr => XS.istore X34.here hx rfl (hb hby at_77) rfl (l' := #[.val (.int x0), .val (.int x1), .val (.int x2), .val (.ref b1), .val (.int ((x2 &&& (255 : Int32)) % (7 : Int32))), .val (.int ((((x2.toUInt32 >>> ((8 : Int32) &&& 31).toUInt32).toInt32) &&& (255 : Int32)) % (7 : Int32))), .val (.int ((x2 &&& (255 : Int32)) % (7 : Int32))), .unset, .unset, .unset]) rfl (XS.iload X34.here hx rfl (hb hby at_79) rfl (XS.iload X34.here hx rfl (hb hby at_81) rfl hr))) ?_
  show own_Go p e below _ (T34.setTop (mkF m 83 #[.val (.int x0), .val (.int x1), .val (.int x2), .val (.ref b1), .val (.int ((x2 &&& (255 : Int32)) % (7 : Int32))), .val (.int ((((x2.toUInt32 >>> ((8 : Int32) &&& 31).toUInt32).toInt32) &&& (255 : Int32)) % (7 : Int32))), .val (.int ((x2 &&& (255 : Int32)) % (7 : Int32))), .unset, .unset, .unset] [(.int ((((x2.toUInt32 >>> ((8 : Int32) &&& 31).toUInt32).toInt32) &&& (255 : Int32)) % (7 : Int32))), (.int ((x2 &&& (255 : Int32)) % (7 : Int32)))]))
  rcases Classical.em (((x2 &&& (255 : Int32)) % (7 : Int32)) < ((((x2.toUInt32 >>> ((8 : Int32) &&& 31).toUInt32).toInt32) &&& (255 : Int32)) % (7 : Int32))) with c36 | c36
  · skip
    refine own_cs X34 hx hZ hown (hw _ (own_m 5 rfl)) (hw _ (own_m 6 rfl)) (hw _ (own_m 3 rfl)) (hw _ (own_m 7 rfl)) (by decide) (rm := { frames := 0, cells := 0, slots := 0, locals := 0 }) (rm_max_3 l Z a0 hw [] ((x2 &&& (255 : Int32)) % (7 : Int32)) ((((x2.toUInt32 >>> ((8 : Int32) &&& 31).toUInt32).toInt32) &&& (255 : Int32)) % (7 : Int32)) h14 n0 Z35 c36) (by decide) (W := 0) (by decide) (by decide) (by decide) e34 (by rw [hml]; rfl) (argsL := [(.int ((x2 &&& (255 : Int32)) % (7 : Int32))), (.int ((((x2.toUInt32 >>> ((8 : Int32) &&& 31).toUInt32).toInt32) &&& (255 : Int32)) % (7 : Int32)))]) (lenOf own_pd1 rfl) (rest := []) rfl rfl (Nat.le_of_eq rfl) (hb hby at_83) ?_
    intro _ T37 L37 X37 hQ37
    obtain ⟨rfl, N37q, e37⟩ := hQ37
    have N37 := Fr.app N34 N37q
    show own_Go p e below _ (T37.setTop (mkF m 86 #[.val (.int x0), .val (.int x1), .val (.int x2), .val (.ref b1), .val (.int ((x2 &&& (255 : Int32)) % (7 : Int32))), .val (.int ((((x2.toUInt32 >>> ((8 : Int32) &&& 31).toUInt32).toInt32) &&& (255 : Int32)) % (7 : Int32))), .val (.int ((x2 &&& (255 : Int32)) % (7 : Int32))), .unset, .unset, .unset] [(.int ((((x2.toUInt32 >>> ((8 : Int32) &&& 31).toUInt32).toInt32) &&& (255 : Int32)) % (7 : Int32)))]))
    refine own_go (fun _ hr => XS.istore X37.here hx rfl (hb hby at_86) rfl (l' := #[.val (.int x0), .val (.int x1), .val (.int x2), .val (.ref b1), .val (.int ((x2 &&& (255 : Int32)) % (7 : Int32))), .val (.int ((((x2.toUInt32 >>> ((8 : Int32) &&& 31).toUInt32).toInt32) &&& (255 : Int32)) % (7 : Int32))), .val (.int ((x2 &&& (255 : Int32)) % (7 : Int32))), .val (.int ((((x2.toUInt32 >>> ((8 : Int32) &&& 31).toUInt32).toInt32) &&& (255 : Int32)) % (7 : Int32))), .unset, .unset]) rfl hr) ?_
    show own_Go p e below _ (T37.setTop (mkF m 88 #[.val (.int x0), .val (.int x1), .val (.int x2), .val (.ref b1), .val (.int ((x2 &&& (255 : Int32)) % (7 : Int32))), .val (.int ((((x2.toUInt32 >>> ((8 : Int32) &&& 31).toUInt32).toInt32) &&& (255 : Int32)) % (7 : Int32))), .val (.int ((x2 &&& (255 : Int32)) % (7 : Int32))), .val (.int ((((x2.toUInt32 >>> ((8 : Int32) &&& 31).toUInt32).toInt32) &&& (255 : Int32)) % (7 : Int32))), .unset, .unset] []))
    have hb6 : 0 ≤ (((x2 &&& (255 : Int32)) % (7 : Int32))).toInt ∧ (((x2 &&& (255 : Int32)) % (7 : Int32))).toInt ≤ (((((x2.toUInt32 >>> ((8 : Int32) &&& 31).toUInt32).toInt32) &&& (255 : Int32)) % (7 : Int32))).toInt ∧ (((((x2.toUInt32 >>> ((8 : Int32) &&& 31).toUInt32).toInt32) &&& (255 : Int32)) % (7 : Int32))).toInt ≤ 6 := by
      have q0 := rng32 x2
      have q1 := c_mask x2 (255 : Int32) 8 (by decide) (by decide)
      have q2 := c_irem (x2 &&& (255 : Int32)) (7 : Int32) 7 (by decide)
      have q3 := c_iushr x2 (8 : Int32) 8 (by decide) (by decide)
      have q4 := c_mask ((x2.toUInt32 >>> ((8 : Int32) &&& 31).toUInt32).toInt32) (255 : Int32) 8 (by decide) (by decide)
      have q5 := c_irem (((x2.toUInt32 >>> ((8 : Int32) &&& 31).toUInt32).toInt32) &&& (255 : Int32)) (7 : Int32) 7 (by decide)
      have p6 := c18
      have p7 := c36
      simp only [true_implies, Int32.lt_iff_toInt_lt, ← Int32.toInt_inj, Int32.reduceToInt, Int64.lt_iff_toInt_lt, ← Int64.toInt_inj, Int64.reduceToInt] at q0 q1 q2 q3 q4 q5 p6 p7 ⊢
      omega
    generalize hfrm : ((x2 &&& (255 : Int32)) % (7 : Int32)) = frm
    generalize htoo : ((((x2.toUInt32 >>> ((8 : Int32) &&& 31).toUInt32).toInt32) &&& (255 : Int32)) % (7 : Int32)) = too
    rw [hfrm] at hb6
    rw [htoo] at hb6
    refine own_go (fun _ hr => XS.iload X37.here hx rfl (hb hby at_88) rfl (XS.istore X37.here hx rfl (hb hby at_90) rfl (l' := #[.val (.int x0), .val (.int x1), .val (.int x2), .val (.ref b1), .val (.int frm), .val (.int too), .val (.int frm), .val (.int too), .val (.int frm), .unset]) rfl (XS.aloadN X37.here hx rfl (hb hby at_92) rfl rfl (XS.iload X37.here hx rfl (hb hby at_93) rfl (XS.iload X37.here hx rfl (hb hby at_95) rfl hr))))) ?_
    show own_Go p e below _ (T37.setTop (mkF m 97 #[.val (.int x0), .val (.int x1), .val (.int x2), .val (.ref b1), .val (.int frm), .val (.int too), .val (.int frm), .val (.int too), .val (.int frm), .unset] [(.int too), (.int frm), (.ref b1)]))
    refine own_cs X37 hx hZ hown (hw _ (own_m 8 rfl)) (hw _ (own_m 9 rfl)) (hw _ (own_m 10 rfl)) (hw _ (own_m 11 rfl)) (by decide) (rm := { frames := 1, cells := 0, slots := 0, locals := 14 }) (rm_step l Z a0 hw [] b1 k1 b_0 b_1 b_2 b_3 b_4 b_5 frm too h14 n0 Z35 f14 hb6.2.2) (by decide) (W := 0) (by decide) (by decide) (by decide) e37 (by rw [hml]; rfl) (argsL := [(.ref b1), (.int frm), (.int too)]) (lenOf own_pd2 rfl) (rest := []) rfl rfl (Nat.le_of_eq rfl) (hb hby at_97) ?_
    intro _ T38 L38 X38 hQ38
    obtain ⟨rfl, N38q, e38⟩ := hQ38
    have N38 := Fr.app N37 N38q
    show own_Go p e below _ (T38.setTop (mkF m 100 #[.val (.int x0), .val (.int x1), .val (.int x2), .val (.ref b1), .val (.int frm), .val (.int too), .val (.int frm), .val (.int too), .val (.int frm), .unset] [(.int (own_step b_0 b_1 b_2 b_3 b_4 b_5 frm too))]))
    refine own_go (fun _ hr => XS.istore X38.here hx rfl (hb hby at_100) rfl (l' := #[.val (.int x0), .val (.int x1), .val (.int x2), .val (.ref b1), .val (.int frm), .val (.int too), .val (.int frm), .val (.int too), .val (.int (own_step b_0 b_1 b_2 b_3 b_4 b_5 frm too)), .unset]) rfl hr) ?_
    show own_Go p e below _ (T38.setTop (mkF m 102 #[.val (.int x0), .val (.int x1), .val (.int x2), .val (.ref b1), .val (.int frm), .val (.int too), .val (.int frm), .val (.int too), .val (.int (own_step b_0 b_1 b_2 b_3 b_4 b_5 frm too)), .unset] []))
    generalize hs1 : (own_step b_0 b_1 b_2 b_3 b_4 b_5 frm too) = s_1
    refine own_go (fun _ hr => XS.aloadN X38.here hx rfl (hb hby at_102) rfl rfl (XS.iload X38.here hx rfl (hb hby at_103) rfl (XS.iload X38.here hx rfl (hb hby at_105) rfl hr))) ?_
    show own_Go p e below _ (T38.setTop (mkF m 107 #[.val (.int x0), .val (.int x1), .val (.int x2), .val (.ref b1), .val (.int frm), .val (.int too), .val (.int frm), .val (.int too), .val (.int s_1), .unset] [(.int too), (.int s_1), (.ref b1)]))
    refine own_cs X38 hx hZ hown (hw _ (own_m 8 rfl)) (hw _ (own_m 9 rfl)) (hw _ (own_m 10 rfl)) (hw _ (own_m 11 rfl)) (by decide) (rm := { frames := 1, cells := 0, slots := 0, locals := 14 }) (rm_step l Z a0 hw [] b1 k1 b_0 b_1 b_2 b_3 b_4 b_5 s_1 too h14 n0 Z35 f14 hb6.2.2) (by decide) (W := 0) (by decide) (by decide) (by decide) e38 (by rw [hml]; rfl) (argsL := [(.ref b1), (.int s_1), (.int too)]) (lenOf own_pd2 rfl) (rest := []) rfl rfl (Nat.le_of_eq rfl) (hb hby at_107) ?_
    intro _ T39 L39 X39 hQ39
    obtain ⟨rfl, N39q, e39⟩ := hQ39
    have N39 := Fr.app N38 N39q
    show own_Go p e below _ (T39.setTop (mkF m 110 #[.val (.int x0), .val (.int x1), .val (.int x2), .val (.ref b1), .val (.int frm), .val (.int too), .val (.int frm), .val (.int too), .val (.int s_1), .unset] [(.int (own_step b_0 b_1 b_2 b_3 b_4 b_5 s_1 too))]))
    refine own_go (fun _ hr => XS.istore X39.here hx rfl (hb hby at_110) rfl (l' := #[.val (.int x0), .val (.int x1), .val (.int x2), .val (.ref b1), .val (.int frm), .val (.int too), .val (.int frm), .val (.int too), .val (.int (own_step b_0 b_1 b_2 b_3 b_4 b_5 s_1 too)), .unset]) rfl hr) ?_
    show own_Go p e below _ (T39.setTop (mkF m 112 #[.val (.int x0), .val (.int x1), .val (.int x2), .val (.ref b1), .val (.int frm), .val (.int too), .val (.int frm), .val (.int too), .val (.int (own_step b_0 b_1 b_2 b_3 b_4 b_5 s_1 too)), .unset] []))
    generalize hs2 : (own_step b_0 b_1 b_2 b_3 b_4 b_5 s_1 too) = s_2
    refine own_go (fun _ hr => XS.aloadN X39.here hx rfl (hb hby at_112) rfl rfl (XS.iload X39.here hx rfl (hb hby at_113) rfl (XS.iload X39.here hx rfl (hb hby at_115) rfl hr))) ?_
    show own_Go p e below _ (T39.setTop (mkF m 117 #[.val (.int x0), .val (.int x1), .val (.int x2), .val (.ref b1), .val (.int frm), .val (.int too), .val (.int frm), .val (.int too), .val (.int s_2), .unset] [(.int too), (.int s_2), (.ref b1)]))
    refine own_cs X39 hx hZ hown (hw _ (own_m 8 rfl)) (hw _ (own_m 9 rfl)) (hw _ (own_m 10 rfl)) (hw _ (own_m 11 rfl)) (by decide) (rm := { frames := 1, cells := 0, slots := 0, locals := 14 }) (rm_step l Z a0 hw [] b1 k1 b_0 b_1 b_2 b_3 b_4 b_5 s_2 too h14 n0 Z35 f14 hb6.2.2) (by decide) (W := 0) (by decide) (by decide) (by decide) e39 (by rw [hml]; rfl) (argsL := [(.ref b1), (.int s_2), (.int too)]) (lenOf own_pd2 rfl) (rest := []) rfl rfl (Nat.le_of_eq rfl) (hb hby at_117) ?_
    intro _ T40 L40 X40 hQ40
    obtain ⟨rfl, N40q, e40⟩ := hQ40
    have N40 := Fr.app N39 N40q
    show own_Go p e below _ (T40.setTop (mkF m 120 #[.val (.int x0), .val (.int x1), .val (.int x2), .val (.ref b1), .val (.int frm), .val (.int too), .val (.int frm), .val (.int too), .val (.int s_2), .unset] [(.int (own_step b_0 b_1 b_2 b_3 b_4 b_5 s_2 too))]))
    refine own_go (fun _ hr => XS.istore X40.here hx rfl (hb hby at_120) rfl (l' := #[.val (.int x0), .val (.int x1), .val (.int x2), .val (.ref b1), .val (.int frm), .val (.int too), .val (.int frm), .val (.int too), .val (.int (own_step b_0 b_1 b_2 b_3 b_4 b_5 s_2 too)), .unset]) rfl hr) ?_
    show own_Go p e below _ (T40.setTop (mkF m 122 #[.val (.int x0), .val (.int x1), .val (.int x2), .val (.ref b1), .val (.int frm), .val (.int too), .val (.int frm), .val (.int too), .val (.int (own_step b_0 b_1 b_2 b_3 b_4 b_5 s_2 too)), .unset] []))
    generalize hs3 : (own_step b_0 b_1 b_2 b_3 b_4 b_5 s_2 too) = s_3
    refine own_go (fun _ hr => XS.aloadN X40.here hx rfl (hb hby at_122) rfl rfl (XS.iload X40.here hx rfl (hb hby at_123) rfl (XS.iload X40.here hx rfl (hb hby at_125) rfl hr))) ?_
    show own_Go p e below _ (T40.setTop (mkF m 127 #[.val (.int x0), .val (.int x1), .val (.int x2), .val (.ref b1), .val (.int frm), .val (.int too), .val (.int frm), .val (.int too), .val (.int s_3), .unset] [(.int too), (.int s_3), (.ref b1)]))
    refine own_cs X40 hx hZ hown (hw _ (own_m 8 rfl)) (hw _ (own_m 9 rfl)) (hw _ (own_m 10 rfl)) (hw _ (own_m 11 rfl)) (by decide) (rm := { frames := 1, cells := 0, slots := 0, locals := 14 }) (rm_step l Z a0 hw [] b1 k1 b_0 b_1 b_2 b_3 b_4 b_5 s_3 too h14 n0 Z35 f14 hb6.2.2) (by decide) (W := 0) (by decide) (by decide) (by decide) e40 (by rw [hml]; rfl) (argsL := [(.ref b1), (.int s_3), (.int too)]) (lenOf own_pd2 rfl) (rest := []) rfl rfl (Nat.le_of_eq rfl) (hb hby at_127) ?_
    intro _ T41 L41 X41 hQ41
    obtain ⟨rfl, N41q, e41⟩ := hQ41
    have N41 := Fr.app N40 N41q
    show own_Go p e below _ (T41.setTop (mkF m 130 #[.val (.int x0), .val (.int x1), .val (.int x2), .val (.ref b1), .val (.int frm), .val (.int too), .val (.int frm), .val (.int too), .val (.int s_3), .unset] [(.int (own_step b_0 b_1 b_2 b_3 b_4 b_5 s_3 too))]))
    refine own_go (fun _ hr => XS.istore X41.here hx rfl (hb hby at_130) rfl (l' := #[.val (.int x0), .val (.int x1), .val (.int x2), .val (.ref b1), .val (.int frm), .val (.int too), .val (.int frm), .val (.int too), .val (.int (own_step b_0 b_1 b_2 b_3 b_4 b_5 s_3 too)), .unset]) rfl hr) ?_
    show own_Go p e below _ (T41.setTop (mkF m 132 #[.val (.int x0), .val (.int x1), .val (.int x2), .val (.ref b1), .val (.int frm), .val (.int too), .val (.int frm), .val (.int too), .val (.int (own_step b_0 b_1 b_2 b_3 b_4 b_5 s_3 too)), .unset] []))
    generalize hs4 : (own_step b_0 b_1 b_2 b_3 b_4 b_5 s_3 too) = s_4
    refine own_go (fun _ hr => XS.aloadN X41.here hx rfl (hb hby at_132) rfl rfl (XS.iload X41.here hx rfl (hb hby at_133) rfl (XS.iload X41.here hx rfl (hb hby at_135) rfl hr))) ?_
    show own_Go p e below _ (T41.setTop (mkF m 137 #[.val (.int x0), .val (.int x1), .val (.int x2), .val (.ref b1), .val (.int frm), .val (.int too), .val (.int frm), .val (.int too), .val (.int s_4), .unset] [(.int too), (.int s_4), (.ref b1)]))
    refine own_cs X41 hx hZ hown (hw _ (own_m 8 rfl)) (hw _ (own_m 9 rfl)) (hw _ (own_m 10 rfl)) (hw _ (own_m 11 rfl)) (by decide) (rm := { frames := 1, cells := 0, slots := 0, locals := 14 }) (rm_step l Z a0 hw [] b1 k1 b_0 b_1 b_2 b_3 b_4 b_5 s_4 too h14 n0 Z35 f14 hb6.2.2) (by decide) (W := 0) (by decide) (by decide) (by decide) e41 (by rw [hml]; rfl) (argsL := [(.ref b1), (.int s_4), (.int too)]) (lenOf own_pd2 rfl) (rest := []) rfl rfl (Nat.le_of_eq rfl) (hb hby at_137) ?_
    intro _ T42 L42 X42 hQ42
    obtain ⟨rfl, N42q, e42⟩ := hQ42
    have N42 := Fr.app N41 N42q
    show own_Go p e below _ (T42.setTop (mkF m 140 #[.val (.int x0), .val (.int x1), .val (.int x2), .val (.ref b1), .val (.int frm), .val (.int too), .val (.int frm), .val (.int too), .val (.int s_4), .unset] [(.int (own_step b_0 b_1 b_2 b_3 b_4 b_5 s_4 too))]))
    refine own_go (fun _ hr => XS.istore X42.here hx rfl (hb hby at_140) rfl (l' := #[.val (.int x0), .val (.int x1), .val (.int x2), .val (.ref b1), .val (.int frm), .val (.int too), .val (.int frm), .val (.int too), .val (.int (own_step b_0 b_1 b_2 b_3 b_4 b_5 s_4 too)), .unset]) rfl hr) ?_
    show own_Go p e below _ (T42.setTop (mkF m 142 #[.val (.int x0), .val (.int x1), .val (.int x2), .val (.ref b1), .val (.int frm), .val (.int too), .val (.int frm), .val (.int too), .val (.int (own_step b_0 b_1 b_2 b_3 b_4 b_5 s_4 too)), .unset] []))
    generalize hs5 : (own_step b_0 b_1 b_2 b_3 b_4 b_5 s_4 too) = s_5
    refine own_go (fun _ hr => XS.aloadN X42.here hx rfl (hb hby at_142) rfl rfl (XS.iload X42.here hx rfl (hb hby at_143) rfl (XS.iload X42.here hx rfl (hb hby at_145) rfl hr))) ?_
    show own_Go p e below _ (T42.setTop (mkF m 147 #[.val (.int x0), .val (.int x1), .val (.int x2), .val (.ref b1), .val (.int frm), .val (.int too), .val (.int frm), .val (.int too), .val (.int s_5), .unset] [(.int too), (.int s_5), (.ref b1)]))
    refine own_cs X42 hx hZ hown (hw _ (own_m 8 rfl)) (hw _ (own_m 9 rfl)) (hw _ (own_m 10 rfl)) (hw _ (own_m 11 rfl)) (by decide) (rm := { frames := 1, cells := 0, slots := 0, locals := 14 }) (rm_step l Z a0 hw [] b1 k1 b_0 b_1 b_2 b_3 b_4 b_5 s_5 too h14 n0 Z35 f14 hb6.2.2) (by decide) (W := 0) (by decide) (by decide) (by decide) e42 (by rw [hml]; rfl) (argsL := [(.ref b1), (.int s_5), (.int too)]) (lenOf own_pd2 rfl) (rest := []) rfl rfl (Nat.le_of_eq rfl) (hb hby at_147) ?_
    intro _ T43 L43 X43 hQ43
    obtain ⟨rfl, N43q, e43⟩ := hQ43
    have N43 := Fr.app N42 N43q
    show own_Go p e below _ (T43.setTop (mkF m 150 #[.val (.int x0), .val (.int x1), .val (.int x2), .val (.ref b1), .val (.int frm), .val (.int too), .val (.int frm), .val (.int too), .val (.int s_5), .unset] [(.int (own_step b_0 b_1 b_2 b_3 b_4 b_5 s_5 too))]))
    refine own_go (fun _ hr => XS.istore X43.here hx rfl (hb hby at_150) rfl (l' := #[.val (.int x0), .val (.int x1), .val (.int x2), .val (.ref b1), .val (.int frm), .val (.int too), .val (.int frm), .val (.int too), .val (.int (own_step b_0 b_1 b_2 b_3 b_4 b_5 s_5 too)), .unset]) rfl hr) ?_
    show own_Go p e below _ (T43.setTop (mkF m 152 #[.val (.int x0), .val (.int x1), .val (.int x2), .val (.ref b1), .val (.int frm), .val (.int too), .val (.int frm), .val (.int too), .val (.int (own_step b_0 b_1 b_2 b_3 b_4 b_5 s_5 too)), .unset] []))
    generalize hs6 : (own_step b_0 b_1 b_2 b_3 b_4 b_5 s_5 too) = s_6
    refine own_go (fun _ hr => XS.iload X43.here hx rfl (hb hby at_152) rfl (XS.iload X43.here hx rfl (hb hby at_154) rfl hr)) ?_
    show own_Go p e below _ (T43.setTop (mkF m 156 #[.val (.int x0), .val (.int x1), .val (.int x2), .val (.ref b1), .val (.int frm), .val (.int too), .val (.int frm), .val (.int too), .val (.int s_6), .unset] [(.int too), (.int s_6)]))
    rcases Classical.em (s_6 = too) with c44 | c44
    · skip
      refine own_go (fun _ hr => XS.icmpNo X43.here hx rfl (hb hby at_156) rfl (teq c44).2 hr) ?_
      show own_Go p e below _ (T43.setTop (mkF m 159 #[.val (.int x0), .val (.int x1), .val (.int x2), .val (.ref b1), .val (.int frm), .val (.int too), .val (.int frm), .val (.int too), .val (.int s_6), .unset] []))
      refine own_go (fun _ hr => XS.iconst X43.here hx rfl (hb hby at_159) (XS.goto X43.here hx rfl (pc0 := 160) (pc' := 164) rfl (hb hby at_160) (by decide) (by decide) (XS.istore X43.here hx rfl (hb hby at_164) rfl (l' := #[.val (.int x0), .val (.int x1), .val (.int x2), .val (.ref b1), .val (.int frm), .val (.int too), .val (.int frm), .val (.int too), .val (.int s_6), .val (.int (1 : Int32))]) rfl (XS.aloadN X43.here hx rfl (hb hby at_166) rfl rfl (XS.iload X43.here hx rfl (hb hby at_167) rfl (XS.iload X43.here hx rfl (hb hby at_169) rfl hr)))))) ?_
      show own_Go p e below _ (T43.setTop (mkF m 171 #[.val (.int x0), .val (.int x1), .val (.int x2), .val (.ref b1), .val (.int frm), .val (.int too), .val (.int frm), .val (.int too), .val (.int s_6), .val (.int (1 : Int32))] [(.int too), (.int frm), (.ref b1)]))
      refine own_cs X43 hx hZ hown (hw _ (own_m 12 rfl)) (hw _ (own_m 13 rfl)) (hw _ (own_m 14 rfl)) (hw _ (own_m 15 rfl)) (by decide) (rm := { frames := 0, cells := 0, slots := 0, locals := 0 }) (rm_wf l Z a0 hw [] b1 k1 b_0 b_1 b_2 b_3 b_4 b_5 frm too h14 n0 Z35 f14 hb6.2.2 ⟨hb6.1, hb6.2.1⟩) (by decide) (W := 0) (by decide) (by decide) (by decide) e43 (by rw [hml]; rfl) (argsL := [(.ref b1), (.int frm), (.int too)]) (lenOf own_pd3 rfl) (rest := []) rfl rfl (Nat.le_of_eq rfl) (hb hby at_171) ?_
      intro _ T45 L45 X45 hQ45
      obtain ⟨rfl, N45q, e45⟩ := hQ45
      have N45 := Fr.app N43 N45q
      show own_Go p e below _ (T45.setTop (mkF m 174 #[.val (.int x0), .val (.int x1), .val (.int x2), .val (.ref b1), .val (.int frm), .val (.int too), .val (.int frm), .val (.int too), .val (.int s_6), .val (.int (1 : Int32))] [(.int (own_wf b_0 b_1 b_2 b_3 b_4 b_5 too 6 frm))]))
      refine own_go (fun _ hr => XS.iload X45.here hx rfl (hb hby at_174) rfl hr) ?_
      show own_Go p e below _ (T45.setTop (mkF m 176 #[.val (.int x0), .val (.int x1), .val (.int x2), .val (.ref b1), .val (.int frm), .val (.int too), .val (.int frm), .val (.int too), .val (.int s_6), .val (.int (1 : Int32))] [(.int (1 : Int32)), (.int (own_wf b_0 b_1 b_2 b_3 b_4 b_5 too 6 frm))]))
      have c46 : (own_wf b_0 b_1 b_2 b_3 b_4 b_5 too 6 frm) = (1 : Int32) := (own_final b_0 b_1 b_2 b_3 b_4 b_5 frm too hb6.1 hb6.2.1 hb6.2.2 s_1 s_2 s_3 s_4 s_5 s_6 hs1 hs2 hs3 hs4 hs5 hs6).1 c44
      refine own_go (fun _ hr => XS.icmpNo X45.here hx rfl (hb hby at_176) rfl (teq c46).2 hr) ?_
      show own_Go p e below _ (T45.setTop (mkF m 179 #[.val (.int x0), .val (.int x1), .val (.int x2), .val (.ref b1), .val (.int frm), .val (.int too), .val (.int frm), .val (.int too), .val (.int s_6), .val (.int (1 : Int32))] []))
      refine own_go (fun _ hr => XS.iconst X45.here hx rfl (hb hby at_179) (XS.goto X45.here hx rfl (pc0 := 180) (pc' := 184) rfl (hb hby at_180) (by decide) (by decide) hr)) ?_
      show own_Go p e below _ (T45.setTop (mkF m 184 #[.val (.int x0), .val (.int x1), .val (.int x2), .val (.ref b1), .val (.int frm), .val (.int too), .val (.int frm), .val (.int too), .val (.int s_6), .val (.int (1 : Int32))] [(.int (1 : Int32))]))
      exact own_retN X45 hx hlk Bd.returns (t := .boolean) (by simp) (hb hby at_184) (by decide) (by decide) ⟨rfl, N45⟩
    refine own_go (fun _ hr => XS.icmpYes X43.here hx rfl (pc0 := 156) (pc' := 163) rfl (hb hby at_156) rfl (feq c44).2 (by decide) (by decide) hr) ?_
    show own_Go p e below _ (T43.setTop (mkF m 163 #[.val (.int x0), .val (.int x1), .val (.int x2), .val (.ref b1), .val (.int frm), .val (.int too), .val (.int frm), .val (.int too), .val (.int s_6), .unset] []))
    refine own_go (fun _ hr => XS.iconst X43.here hx rfl (hb hby at_163) (XS.istore X43.here hx rfl (hb hby at_164) rfl (l' := #[.val (.int x0), .val (.int x1), .val (.int x2), .val (.ref b1), .val (.int frm), .val (.int too), .val (.int frm), .val (.int too), .val (.int s_6), .val (.int (0 : Int32))]) rfl (XS.aloadN X43.here hx rfl (hb hby at_166) rfl rfl (XS.iload X43.here hx rfl (hb hby at_167) rfl (XS.iload X43.here hx rfl (hb hby at_169) rfl hr))))) ?_
    show own_Go p e below _ (T43.setTop (mkF m 171 #[.val (.int x0), .val (.int x1), .val (.int x2), .val (.ref b1), .val (.int frm), .val (.int too), .val (.int frm), .val (.int too), .val (.int s_6), .val (.int (0 : Int32))] [(.int too), (.int frm), (.ref b1)]))
    refine own_cs X43 hx hZ hown (hw _ (own_m 12 rfl)) (hw _ (own_m 13 rfl)) (hw _ (own_m 14 rfl)) (hw _ (own_m 15 rfl)) (by decide) (rm := { frames := 0, cells := 0, slots := 0, locals := 0 }) (rm_wf l Z a0 hw [] b1 k1 b_0 b_1 b_2 b_3 b_4 b_5 frm too h14 n0 Z35 f14 hb6.2.2 ⟨hb6.1, hb6.2.1⟩) (by decide) (W := 0) (by decide) (by decide) (by decide) e43 (by rw [hml]; rfl) (argsL := [(.ref b1), (.int frm), (.int too)]) (lenOf own_pd3 rfl) (rest := []) rfl rfl (Nat.le_of_eq rfl) (hb hby at_171) ?_
    intro _ T47 L47 X47 hQ47
    obtain ⟨rfl, N47q, e47⟩ := hQ47
    have N47 := Fr.app N43 N47q
    show own_Go p e below _ (T47.setTop (mkF m 174 #[.val (.int x0), .val (.int x1), .val (.int x2), .val (.ref b1), .val (.int frm), .val (.int too), .val (.int frm), .val (.int too), .val (.int s_6), .val (.int (0 : Int32))] [(.int (own_wf b_0 b_1 b_2 b_3 b_4 b_5 too 6 frm))]))
    refine own_go (fun _ hr => XS.iload X47.here hx rfl (hb hby at_174) rfl hr) ?_
    show own_Go p e below _ (T47.setTop (mkF m 176 #[.val (.int x0), .val (.int x1), .val (.int x2), .val (.ref b1), .val (.int frm), .val (.int too), .val (.int frm), .val (.int too), .val (.int s_6), .val (.int (0 : Int32))] [(.int (0 : Int32)), (.int (own_wf b_0 b_1 b_2 b_3 b_4 b_5 too 6 frm))]))
    have c48 : (own_wf b_0 b_1 b_2 b_3 b_4 b_5 too 6 frm) = (0 : Int32) := (own_final b_0 b_1 b_2 b_3 b_4 b_5 frm too hb6.1 hb6.2.1 hb6.2.2 s_1 s_2 s_3 s_4 s_5 s_6 hs1 hs2 hs3 hs4 hs5 hs6).2 c44
    refine own_go (fun _ hr => XS.icmpNo X47.here hx rfl (hb hby at_176) rfl (teq c48).2 hr) ?_
    show own_Go p e below _ (T47.setTop (mkF m 179 #[.val (.int x0), .val (.int x1), .val (.int x2), .val (.ref b1), .val (.int frm), .val (.int too), .val (.int frm), .val (.int too), .val (.int s_6), .val (.int (0 : Int32))] []))
    refine own_go (fun _ hr => XS.iconst X47.here hx rfl (hb hby at_179) (XS.goto X47.here hx rfl (pc0 := 180) (pc' := 184) rfl (hb hby at_180) (by decide) (by decide) hr)) ?_
    show own_Go p e below _ (T47.setTop (mkF m 184 #[.val (.int x0), .val (.int x1), .val (.int x2), .val (.ref b1), .val (.int frm), .val (.int too), .val (.int frm), .val (.int too), .val (.int s_6), .val (.int (0 : Int32))] [(.int (1 : Int32))]))
    exact own_retN X47 hx hlk Bd.returns (t := .boolean) (by simp) (hb hby at_184) (by decide) (by decide) ⟨rfl, N47⟩
  refine own_cs X34 hx hZ hown (hw _ (own_m 5 rfl)) (hw _ (own_m 6 rfl)) (hw _ (own_m 3 rfl)) (hw _ (own_m 7 rfl)) (by decide) (rm := { frames := 0, cells := 0, slots := 0, locals := 0 }) (rm_max_1 l Z a0 hw [] ((x2 &&& (255 : Int32)) % (7 : Int32)) ((((x2.toUInt32 >>> ((8 : Int32) &&& 31).toUInt32).toInt32) &&& (255 : Int32)) % (7 : Int32)) h14 n0 Z35 c36) (by decide) (W := 0) (by decide) (by decide) (by decide) e34 (by rw [hml]; rfl) (argsL := [(.int ((x2 &&& (255 : Int32)) % (7 : Int32))), (.int ((((x2.toUInt32 >>> ((8 : Int32) &&& 31).toUInt32).toInt32) &&& (255 : Int32)) % (7 : Int32)))]) (lenOf own_pd1 rfl) (rest := []) rfl rfl (Nat.le_of_eq rfl) (hb hby at_83) ?_
  intro _ T49 L49 X49 hQ49
  obtain ⟨rfl, N49q, e49⟩ := hQ49
  have N49 := Fr.app N34 N49q
  show own_Go p e below _ (T49.setTop (mkF m 86 #[.val (.int x0), .val (.int x1), .val (.int x2), .val (.ref b1), .val (.int ((x2 &&& (255 : Int32)) % (7 : Int32))), .val (.int ((((x2.toUInt32 >>> ((8 : Int32) &&& 31).toUInt32).toInt32) &&& (255 : Int32)) % (7 : Int32))), .val (.int ((x2 &&& (255 : Int32)) % (7 : Int32))), .unset, .unset, .unset] [(.int ((x2 &&& (255 : Int32)) % (7 : Int32)))]))
  refine own_go (fun _ hr => XS.istore X49.here hx rfl (hb hby at_86) rfl (l' := #[.val (.int x0), .val (.int x1), .val (.int x2), .val (.ref b1), .val (.int ((x2 &&& (255 : Int32)) % (7 : Int32))), .val (.int ((((x2.toUInt32 >>> ((8 : Int32) &&& 31).toUInt32).toInt32) &&& (255 : Int32)) % (7 : Int32))), .val (.int ((x2 &&& (255 : Int32)) % (7 : Int32))), .val (.int ((x2 &&& (255 : Int32)) % (7 : Int32))), .unset, .unset]) rfl hr) ?_
  show own_Go p e below _ (T49.setTop (mkF m 88 #[.val (.int x0), .val (.int x1), .val (.int x2), .val (.ref b1), .val (.int ((x2 &&& (255 : Int32)) % (7 : Int32))), .val (.int ((((x2.toUInt32 >>> ((8 : Int32) &&& 31).toUInt32).toInt32) &&& (255 : Int32)) % (7 : Int32))), .val (.int ((x2 &&& (255 : Int32)) % (7 : Int32))), .val (.int ((x2 &&& (255 : Int32)) % (7 : Int32))), .unset, .unset] []))
  have hb6 : 0 ≤ (((x2 &&& (255 : Int32)) % (7 : Int32))).toInt ∧ (((x2 &&& (255 : Int32)) % (7 : Int32))).toInt ≤ (((x2 &&& (255 : Int32)) % (7 : Int32))).toInt ∧ (((x2 &&& (255 : Int32)) % (7 : Int32))).toInt ≤ 6 := by
    have q0 := rng32 x2
    have q1 := c_mask x2 (255 : Int32) 8 (by decide) (by decide)
    have q2 := c_irem (x2 &&& (255 : Int32)) (7 : Int32) 7 (by decide)
    have p6 := c18
    have p7 := c36
    simp only [true_implies, Int32.lt_iff_toInt_lt, ← Int32.toInt_inj, Int32.reduceToInt, Int64.lt_iff_toInt_lt, ← Int64.toInt_inj, Int64.reduceToInt] at q0 q1 q2 p6 p7 ⊢
    omega
  generalize hfrm : ((x2 &&& (255 : Int32)) % (7 : Int32)) = frm
  obtain ⟨too, htoo⟩ : ∃ z, frm = z := ⟨_, rfl⟩
  rw [hfrm] at hb6
  refine own_go (fun _ hr => XS.iload X49.here hx rfl (hb hby at_88) rfl (XS.istore X49.here hx rfl (hb hby at_90) rfl (l' := #[.val (.int x0), .val (.int x1), .val (.int x2), .val (.ref b1), .val (.int frm), .val (.int ((((x2.toUInt32 >>> ((8 : Int32) &&& 31).toUInt32).toInt32) &&& (255 : Int32)) % (7 : Int32))), .val (.int frm), .val (.int frm), .val (.int frm), .unset]) rfl (XS.aloadN X49.here hx rfl (hb hby at_92) rfl rfl (XS.iload X49.here hx rfl (hb hby at_93) rfl (XS.iload X49.here hx rfl (hb hby at_95) rfl hr))))) ?_
  show own_Go p e below _ (T49.setTop (mkF m 97 #[.val (.int x0), .val (.int x1), .val (.int x2), .val (.ref b1), .val (.int frm), .val (.int ((((x2.toUInt32 >>> ((8 : Int32) &&& 31).toUInt32).toInt32) &&& (255 : Int32)) % (7 : Int32))), .val (.int frm), .val (.int frm), .val (.int frm), .unset] [(.int frm), (.int frm), (.ref b1)]))
  refine own_cs X49 hx hZ hown (hw _ (own_m 8 rfl)) (hw _ (own_m 9 rfl)) (hw _ (own_m 10 rfl)) (hw _ (own_m 11 rfl)) (by decide) (rm := { frames := 1, cells := 0, slots := 0, locals := 14 }) (rm_step l Z a0 hw [] b1 k1 b_0 b_1 b_2 b_3 b_4 b_5 frm frm h14 n0 Z35 f14 hb6.2.2) (by decide) (W := 0) (by decide) (by decide) (by decide) e49 (by rw [hml]; rfl) (argsL := [(.ref b1), (.int frm), (.int frm)]) (lenOf own_pd2 rfl) (rest := []) rfl rfl (Nat.le_of_eq rfl) (hb hby at_97) ?_
  intro _ T50 L50 X50 hQ50
  obtain ⟨rfl, N50q, e50⟩ := hQ50
  have N50 := Fr.app N49 N50q
  show own_Go p e below _ (T50.setTop (mkF m 100 #[.val (.int x0), .val (.int x1), .val (.int x2), .val (.ref b1), .val (.int frm), .val (.int ((((x2.toUInt32 >>> ((8 : Int32) &&& 31).toUInt32).toInt32) &&& (255 : Int32)) % (7 : Int32))), .val (.int frm), .val (.int frm), .val (.int frm), .unset] [(.int (own_step b_0 b_1 b_2 b_3 b_4 b_5 frm frm))]))
  refine own_go (fun _ hr => XS.istore X50.here hx rfl (hb hby at_100) rfl (l' := #[.val (.int x0), .val (.int x1), .val (.int x2), .val (.ref b1), .val (.int frm), .val (.int ((((x2.toUInt32 >>> ((8 : Int32) &&& 31).toUInt32).toInt32) &&& (255 : Int32)) % (7 : Int32))), .val (.int frm), .val (.int frm), .val (.int (own_step b_0 b_1 b_2 b_3 b_4 b_5 frm frm)), .unset]) rfl hr) ?_
  show own_Go p e below _ (T50.setTop (mkF m 102 #[.val (.int x0), .val (.int x1), .val (.int x2), .val (.ref b1), .val (.int frm), .val (.int ((((x2.toUInt32 >>> ((8 : Int32) &&& 31).toUInt32).toInt32) &&& (255 : Int32)) % (7 : Int32))), .val (.int frm), .val (.int frm), .val (.int (own_step b_0 b_1 b_2 b_3 b_4 b_5 frm frm)), .unset] []))
  generalize hs1 : (own_step b_0 b_1 b_2 b_3 b_4 b_5 frm frm) = s_1
  refine own_go (fun _ hr => XS.aloadN X50.here hx rfl (hb hby at_102) rfl rfl (XS.iload X50.here hx rfl (hb hby at_103) rfl (XS.iload X50.here hx rfl (hb hby at_105) rfl hr))) ?_
  show own_Go p e below _ (T50.setTop (mkF m 107 #[.val (.int x0), .val (.int x1), .val (.int x2), .val (.ref b1), .val (.int frm), .val (.int ((((x2.toUInt32 >>> ((8 : Int32) &&& 31).toUInt32).toInt32) &&& (255 : Int32)) % (7 : Int32))), .val (.int frm), .val (.int frm), .val (.int s_1), .unset] [(.int frm), (.int s_1), (.ref b1)]))
  refine own_cs X50 hx hZ hown (hw _ (own_m 8 rfl)) (hw _ (own_m 9 rfl)) (hw _ (own_m 10 rfl)) (hw _ (own_m 11 rfl)) (by decide) (rm := { frames := 1, cells := 0, slots := 0, locals := 14 }) (rm_step l Z a0 hw [] b1 k1 b_0 b_1 b_2 b_3 b_4 b_5 s_1 frm h14 n0 Z35 f14 hb6.2.2) (by decide) (W := 0) (by decide) (by decide) (by decide) e50 (by rw [hml]; rfl) (argsL := [(.ref b1), (.int s_1), (.int frm)]) (lenOf own_pd2 rfl) (rest := []) rfl rfl (Nat.le_of_eq rfl) (hb hby at_107) ?_
  intro _ T51 L51 X51 hQ51
  obtain ⟨rfl, N51q, e51⟩ := hQ51
  have N51 := Fr.app N50 N51q
  show own_Go p e below _ (T51.setTop (mkF m 110 #[.val (.int x0), .val (.int x1), .val (.int x2), .val (.ref b1), .val (.int frm), .val (.int ((((x2.toUInt32 >>> ((8 : Int32) &&& 31).toUInt32).toInt32) &&& (255 : Int32)) % (7 : Int32))), .val (.int frm), .val (.int frm), .val (.int s_1), .unset] [(.int (own_step b_0 b_1 b_2 b_3 b_4 b_5 s_1 frm))]))
  refine own_go (fun _ hr => XS.istore X51.here hx rfl (hb hby at_110) rfl (l' := #[.val (.int x0), .val (.int x1), .val (.int x2), .val (.ref b1), .val (.int frm), .val (.int ((((x2.toUInt32 >>> ((8 : Int32) &&& 31).toUInt32).toInt32) &&& (255 : Int32)) % (7 : Int32))), .val (.int frm), .val (.int frm), .val (.int (own_step b_0 b_1 b_2 b_3 b_4 b_5 s_1 frm)), .unset]) rfl hr) ?_
  show own_Go p e below _ (T51.setTop (mkF m 112 #[.val (.int x0), .val (.int x1), .val (.int x2), .val (.ref b1), .val (.int frm), .val (.int ((((x2.toUInt32 >>> ((8 : Int32) &&& 31).toUInt32).toInt32) &&& (255 : Int32)) % (7 : Int32))), .val (.int frm), .val (.int frm), .val (.int (own_step b_0 b_1 b_2 b_3 b_4 b_5 s_1 frm)), .unset] []))
  generalize hs2 : (own_step b_0 b_1 b_2 b_3 b_4 b_5 s_1 frm) = s_2
  refine own_go (fun _ hr => XS.aloadN X51.here hx rfl (hb hby at_112) rfl rfl (XS.iload X51.here hx rfl (hb hby at_113) rfl (XS.iload X51.here hx rfl (hb hby at_115) rfl hr))) ?_
  show own_Go p e below _ (T51.setTop (mkF m 117 #[.val (.int x0), .val (.int x1), .val (.int x2), .val (.ref b1), .val (.int frm), .val (.int ((((x2.toUInt32 >>> ((8 : Int32) &&& 31).toUInt32).toInt32) &&& (255 : Int32)) % (7 : Int32))), .val (.int frm), .val (.int frm), .val (.int s_2), .unset] [(.int frm), (.int s_2), (.ref b1)]))
  refine own_cs X51 hx hZ hown (hw _ (own_m 8 rfl)) (hw _ (own_m 9 rfl)) (hw _ (own_m 10 rfl)) (hw _ (own_m 11 rfl)) (by decide) (rm := { frames := 1, cells := 0, slots := 0, locals := 14 }) (rm_step l Z a0 hw [] b1 k1 b_0 b_1 b_2 b_3 b_4 b_5 s_2 frm h14 n0 Z35 f14 hb6.2.2) (by decide) (W := 0) (by decide) (by decide) (by decide) e51 (by rw [hml]; rfl) (argsL := [(.ref b1), (.int s_2), (.int frm)]) (lenOf own_pd2 rfl) (rest := []) rfl rfl (Nat.le_of_eq rfl) (hb hby at_117) ?_
  intro _ T52 L52 X52 hQ52
  obtain ⟨rfl, N52q, e52⟩ := hQ52
  have N52 := Fr.app N51 N52q
  show own_Go p e below _ (T52.setTop (mkF m 120 #[.val (.int x0), .val (.int x1), .val (.int x2), .val (.ref b1), .val (.int frm), .val (.int ((((x2.toUInt32 >>> ((8 : Int32) &&& 31).toUInt32).toInt32) &&& (255 : Int32)) % (7 : Int32))), .val (.int frm), .val (.int frm), .val (.int s_2), .unset] [(.int (own_step b_0 b_1 b_2 b_3 b_4 b_5 s_2 frm))]))
  refine own_go (fun _ hr => XS.istore X52.here hx rfl (hb hby at_120) rfl (l' := #[.val (.int x0), .val (.int x1), .val (.int x2), .val (.ref b1), .val (.int frm), .val (.int ((((x2.toUInt32 >>> ((8 : Int32) &&& 31).toUInt32).toInt32) &&& (255 : Int32)) % (7 : Int32))), .val (.int frm), .val (.int frm), .val (.int (own_step b_0 b_1 b_2 b_3 b_4 b_5 s_2 frm)), .unset]) rfl hr) ?_
  show own_Go p e below _ (T52.setTop (mkF m 122 #[.val (.int x0), .val (.int x1), .val (.int x2), .val (.ref b1), .val (.int frm), .val (.int ((((x2.toUInt32 >>> ((8 : Int32) &&& 31).toUInt32).toInt32) &&& (255 : Int32)) % (7 : Int32))), .val (.int frm), .val (.int frm), .val (.int (own_step b_0 b_1 b_2 b_3 b_4 b_5 s_2 frm)), .unset] []))
  generalize hs3 : (own_step b_0 b_1 b_2 b_3 b_4 b_5 s_2 frm) = s_3
  refine own_go (fun _ hr => XS.aloadN X52.here hx rfl (hb hby at_122) rfl rfl (XS.iload X52.here hx rfl (hb hby at_123) rfl (XS.iload X52.here hx rfl (hb hby at_125) rfl hr))) ?_
  show own_Go p e below _ (T52.setTop (mkF m 127 #[.val (.int x0), .val (.int x1), .val (.int x2), .val (.ref b1), .val (.int frm), .val (.int ((((x2.toUInt32 >>> ((8 : Int32) &&& 31).toUInt32).toInt32) &&& (255 : Int32)) % (7 : Int32))), .val (.int frm), .val (.int frm), .val (.int s_3), .unset] [(.int frm), (.int s_3), (.ref b1)]))
  refine own_cs X52 hx hZ hown (hw _ (own_m 8 rfl)) (hw _ (own_m 9 rfl)) (hw _ (own_m 10 rfl)) (hw _ (own_m 11 rfl)) (by decide) (rm := { frames := 1, cells := 0, slots := 0, locals := 14 }) (rm_step l Z a0 hw [] b1 k1 b_0 b_1 b_2 b_3 b_4 b_5 s_3 frm h14 n0 Z35 f14 hb6.2.2) (by decide) (W := 0) (by decide) (by decide) (by decide) e52 (by rw [hml]; rfl) (argsL := [(.ref b1), (.int s_3), (.int frm)]) (lenOf own_pd2 rfl) (rest := []) rfl rfl (Nat.le_of_eq rfl) (hb hby at_127) ?_
  intro _ T53 L53 X53 hQ53
  obtain ⟨rfl, N53q, e53⟩ := hQ53
  have N53 := Fr.app N52 N53q
  show own_Go p e below _ (T53.setTop (mkF m 130 #[.val (.int x0), .val (.int x1), .val (.int x2), .val (.ref b1), .val (.int frm), .val (.int ((((x2.toUInt32 >>> ((8 : Int32) &&& 31).toUInt32).toInt32) &&& (255 : Int32)) % (7 : Int32))), .val (.int frm), .val (.int frm), .val (.int s_3), .unset] [(.int (own_step b_0 b_1 b_2 b_3 b_4 b_5 s_3 frm))]))
  refine own_go (fun _ hr => XS.istore X53.here hx rfl (hb hby at_130) rfl (l' := #[.val (.int x0), .val (.int x1), .val (.int x2), .val (.ref b1), .val (.int frm), .val (.int ((((x2.toUInt32 >>> ((8 : Int32) &&& 31).toUInt32).toInt32) &&& (255 : Int32)) % (7 : Int32))), .val (.int frm), .val (.int frm), .val (.int (own_step b_0 b_1 b_2 b_3 b_4 b_5 s_3 frm)), .unset]) rfl hr) ?_
  show own_Go p e below _ (T53.setTop (mkF m 132 #[.val (.int x0), .val (.int x1), .val (.int x2), .val (.ref b1), .val (.int frm), .val (.int ((((x2.toUInt32 >>> ((8 : Int32) &&& 31).toUInt32).toInt32) &&& (255 : Int32)) % (7 : Int32))), .val (.int frm), .val (.int frm), .val (.int (own_step b_0 b_1 b_2 b_3 b_4 b_5 s_3 frm)), .unset] []))
  generalize hs4 : (own_step b_0 b_1 b_2 b_3 b_4 b_5 s_3 frm) = s_4
  refine own_go (fun _ hr => XS.aloadN X53.here hx rfl (hb hby at_132) rfl rfl (XS.iload X53.here hx rfl (hb hby at_133) rfl (XS.iload X53.here hx rfl (hb hby at_135) rfl hr))) ?_
  show own_Go p e below _ (T53.setTop (mkF m 137 #[.val (.int x0), .val (.int x1), .val (.int x2), .val (.ref b1), .val (.int frm), .val (.int ((((x2.toUInt32 >>> ((8 : Int32) &&& 31).toUInt32).toInt32) &&& (255 : Int32)) % (7 : Int32))), .val (.int frm), .val (.int frm), .val (.int s_4), .unset] [(.int frm), (.int s_4), (.ref b1)]))
  refine own_cs X53 hx hZ hown (hw _ (own_m 8 rfl)) (hw _ (own_m 9 rfl)) (hw _ (own_m 10 rfl)) (hw _ (own_m 11 rfl)) (by decide) (rm := { frames := 1, cells := 0, slots := 0, locals := 14 }) (rm_step l Z a0 hw [] b1 k1 b_0 b_1 b_2 b_3 b_4 b_5 s_4 frm h14 n0 Z35 f14 hb6.2.2) (by decide) (W := 0) (by decide) (by decide) (by decide) e53 (by rw [hml]; rfl) (argsL := [(.ref b1), (.int s_4), (.int frm)]) (lenOf own_pd2 rfl) (rest := []) rfl rfl (Nat.le_of_eq rfl) (hb hby at_137) ?_
  intro _ T54 L54 X54 hQ54
  obtain ⟨rfl, N54q, e54⟩ := hQ54
  have N54 := Fr.app N53 N54q
  show own_Go p e below _ (T54.setTop (mkF m 140 #[.val (.int x0), .val (.int x1), .val (.int x2), .val (.ref b1), .val (.int frm), .val (.int ((((x2.toUInt32 >>> ((8 : Int32) &&& 31).toUInt32).toInt32) &&& (255 : Int32)) % (7 : Int32))), .val (.int frm), .val (.int frm), .val (.int s_4), .unset] [(.int (own_step b_0 b_1 b_2 b_3 b_4 b_5 s_4 frm))]))
  refine own_go (fun _ hr => XS.istore X54.here hx rfl (hb hby at_140) rfl (l' := #[.val (.int x0), .val (.int x1), .val (.int x2), .val (.ref b1), .val (.int frm), .val (.int ((((x2.toUInt32 >>> ((8 : Int32) &&& 31).toUInt32).toInt32) &&& (255 : Int32)) % (7 : Int32))), .val (.int frm), .val (.int frm), .val (.int (own_step b_0 b_1 b_2 b_3 b_4 b_5 s_4 frm)), .unset]) rfl hr) ?_
  show own_Go p e below _ (T54.setTop (mkF m 142 #[.val (.int x0), .val (.int x1), .val (.int x2), .val (.ref b1), .val (.int frm), .val (.int ((((x2.toUInt32 >>> ((8 : Int32) &&& 31).toUInt32).toInt32) &&& (255 : Int32)) % (7 : Int32))), .val (.int frm), .val (.int frm), .val (.int (own_step b_0 b_1 b_2 b_3 b_4 b_5 s_4 frm)), .unset] []))
  generalize hs5 : (own_step b_0 b_1 b_2 b_3 b_4 b_5 s_4 frm) = s_5
  refine own_go (fun _ hr => XS.aloadN X54.here hx rfl (hb hby at_142) rfl rfl (XS.iload X54.here hx rfl (hb hby at_143) rfl (XS.iload X54.here hx rfl (hb hby at_145) rfl hr))) ?_
  show own_Go p e below _ (T54.setTop (mkF m 147 #[.val (.int x0), .val (.int x1), .val (.int x2), .val (.ref b1), .val (.int frm), .val (.int ((((x2.toUInt32 >>> ((8 : Int32) &&& 31).toUInt32).toInt32) &&& (255 : Int32)) % (7 : Int32))), .val (.int frm), .val (.int frm), .val (.int s_5), .unset] [(.int frm), (.int s_5), (.ref b1)]))
  refine own_cs X54 hx hZ hown (hw _ (own_m 8 rfl)) (hw _ (own_m 9 rfl)) (hw _ (own_m 10 rfl)) (hw _ (own_m 11 rfl)) (by decide) (rm := { frames := 1, cells := 0, slots := 0, locals := 14 }) (rm_step l Z a0 hw [] b1 k1 b_0 b_1 b_2 b_3 b_4 b_5 s_5 frm h14 n0 Z35 f14 hb6.2.2) (by decide) (W := 0) (by decide) (by decide) (by decide) e54 (by rw [hml]; rfl) (argsL := [(.ref b1), (.int s_5), (.int frm)]) (lenOf own_pd2 rfl) (rest := []) rfl rfl (Nat.le_of_eq rfl) (hb hby at_147) ?_
  intro _ T55 L55 X55 hQ55
  obtain ⟨rfl, N55q, e55⟩ := hQ55
  have N55 := Fr.app N54 N55q
  show own_Go p e below _ (T55.setTop (mkF m 150 #[.val (.int x0), .val (.int x1), .val (.int x2), .val (.ref b1), .val (.int frm), .val (.int ((((x2.toUInt32 >>> ((8 : Int32) &&& 31).toUInt32).toInt32) &&& (255 : Int32)) % (7 : Int32))), .val (.int frm), .val (.int frm), .val (.int s_5), .unset] [(.int (own_step b_0 b_1 b_2 b_3 b_4 b_5 s_5 frm))]))
  refine own_go (fun _ hr => XS.istore X55.here hx rfl (hb hby at_150) rfl (l' := #[.val (.int x0), .val (.int x1), .val (.int x2), .val (.ref b1), .val (.int frm), .val (.int ((((x2.toUInt32 >>> ((8 : Int32) &&& 31).toUInt32).toInt32) &&& (255 : Int32)) % (7 : Int32))), .val (.int frm), .val (.int frm), .val (.int (own_step b_0 b_1 b_2 b_3 b_4 b_5 s_5 frm)), .unset]) rfl hr) ?_
  show own_Go p e below _ (T55.setTop (mkF m 152 #[.val (.int x0), .val (.int x1), .val (.int x2), .val (.ref b1), .val (.int frm), .val (.int ((((x2.toUInt32 >>> ((8 : Int32) &&& 31).toUInt32).toInt32) &&& (255 : Int32)) % (7 : Int32))), .val (.int frm), .val (.int frm), .val (.int (own_step b_0 b_1 b_2 b_3 b_4 b_5 s_5 frm)), .unset] []))
  generalize hs6 : (own_step b_0 b_1 b_2 b_3 b_4 b_5 s_5 frm) = s_6
  refine own_go (fun _ hr => XS.iload X55.here hx rfl (hb hby at_152) rfl (XS.iload X55.here hx rfl (hb hby at_154) rfl hr)) ?_
  show own_Go p e below _ (T55.setTop (mkF m 156 #[.val (.int x0), .val (.int x1), .val (.int x2), .val (.ref b1), .val (.int frm), .val (.int ((((x2.toUInt32 >>> ((8 : Int32) &&& 31).toUInt32).toInt32) &&& (255 : Int32)) % (7 : Int32))), .val (.int frm), .val (.int frm), .val (.int s_6), .unset] [(.int frm), (.int s_6)]))
  have c56 : s_6 = frm := by
            have t := own_step_to b_0 b_1 b_2 b_3 b_4 b_5 frm hb6.1
            have e1 : s_1 = frm := hs1.symm.trans t
            have e2 : s_2 = frm := by rw [← hs2, e1, t]
            have e3 : s_3 = frm := by rw [← hs3, e2, t]
            have e4 : s_4 = frm := by rw [← hs4, e3, t]
            have e5 : s_5 = frm := by rw [← hs5, e4, t]
            have e6 : s_6 = frm := by rw [← hs6, e5, t]
            exact e6
  refine own_go (fun _ hr => XS.icmpNo X55.here hx rfl (hb hby at_156) rfl (teq c56).2 hr) ?_
  show own_Go p e below _ (T55.setTop (mkF m 159 #[.val (.int x0), .val (.int x1), .val (.int x2), .val (.ref b1), .val (.int frm), .val (.int ((((x2.toUInt32 >>> ((8 : Int32) &&& 31).toUInt32).toInt32) &&& (255 : Int32)) % (7 : Int32))), .val (.int frm), .val (.int frm), .val (.int s_6), .unset] []))
  refine own_go (fun _ hr => XS.iconst X55.here hx rfl (hb hby at_159) (XS.goto X55.here hx rfl (pc0 := 160) (pc' := 164) rfl (hb hby at_160) (by decide) (by decide) (XS.istore X55.here hx rfl (hb hby at_164) rfl (l' := #[.val (.int x0), .val (.int x1), .val (.int x2), .val (.ref b1), .val (.int frm), .val (.int ((((x2.toUInt32 >>> ((8 : Int32) &&& 31).toUInt32).toInt32) &&& (255 : Int32)) % (7 : Int32))), .val (.int frm), .val (.int frm), .val (.int s_6), .val (.int (1 : Int32))]) rfl (XS.aloadN X55.here hx rfl (hb hby at_166) rfl rfl (XS.iload X55.here hx rfl (hb hby at_167) rfl (XS.iload X55.here hx rfl (hb hby at_169) rfl hr)))))) ?_
  show own_Go p e below _ (T55.setTop (mkF m 171 #[.val (.int x0), .val (.int x1), .val (.int x2), .val (.ref b1), .val (.int frm), .val (.int ((((x2.toUInt32 >>> ((8 : Int32) &&& 31).toUInt32).toInt32) &&& (255 : Int32)) % (7 : Int32))), .val (.int frm), .val (.int frm), .val (.int s_6), .val (.int (1 : Int32))] [(.int frm), (.int frm), (.ref b1)]))
  refine own_cs X55 hx hZ hown (hw _ (own_m 12 rfl)) (hw _ (own_m 13 rfl)) (hw _ (own_m 14 rfl)) (hw _ (own_m 15 rfl)) (by decide) (rm := { frames := 0, cells := 0, slots := 0, locals := 0 }) (rm_wf l Z a0 hw [] b1 k1 b_0 b_1 b_2 b_3 b_4 b_5 frm frm h14 n0 Z35 f14 hb6.2.2 ⟨hb6.1, hb6.2.1⟩) (by decide) (W := 0) (by decide) (by decide) (by decide) e55 (by rw [hml]; rfl) (argsL := [(.ref b1), (.int frm), (.int frm)]) (lenOf own_pd3 rfl) (rest := []) rfl rfl (Nat.le_of_eq rfl) (hb hby at_171) ?_
  intro _ T57 L57 X57 hQ57
  obtain ⟨rfl, N57q, e57⟩ := hQ57
  have N57 := Fr.app N55 N57q
  show own_Go p e below _ (T57.setTop (mkF m 174 #[.val (.int x0), .val (.int x1), .val (.int x2), .val (.ref b1), .val (.int frm), .val (.int ((((x2.toUInt32 >>> ((8 : Int32) &&& 31).toUInt32).toInt32) &&& (255 : Int32)) % (7 : Int32))), .val (.int frm), .val (.int frm), .val (.int s_6), .val (.int (1 : Int32))] [(.int (own_wf b_0 b_1 b_2 b_3 b_4 b_5 frm 6 frm))]))
  refine own_go (fun _ hr => XS.iload X57.here hx rfl (hb hby at_174) rfl hr) ?_
  show own_Go p e below _ (T57.setTop (mkF m 176 #[.val (.int x0), .val (.int x1), .val (.int x2), .val (.ref b1), .val (.int frm), .val (.int ((((x2.toUInt32 >>> ((8 : Int32) &&& 31).toUInt32).toInt32) &&& (255 : Int32)) % (7 : Int32))), .val (.int frm), .val (.int frm), .val (.int s_6), .val (.int (1 : Int32))] [(.int (1 : Int32)), (.int (own_wf b_0 b_1 b_2 b_3 b_4 b_5 frm 6 frm))]))
  have c58 : (own_wf b_0 b_1 b_2 b_3 b_4 b_5 frm 6 frm) = (1 : Int32) := (own_final b_0 b_1 b_2 b_3 b_4 b_5 frm frm hb6.1 hb6.2.1 hb6.2.2 s_1 s_2 s_3 s_4 s_5 s_6 hs1 hs2 hs3 hs4 hs5 hs6).1 c56
  refine own_go (fun _ hr => XS.icmpNo X57.here hx rfl (hb hby at_176) rfl (teq c58).2 hr) ?_
  show own_Go p e below _ (T57.setTop (mkF m 179 #[.val (.int x0), .val (.int x1), .val (.int x2), .val (.ref b1), .val (.int frm), .val (.int ((((x2.toUInt32 >>> ((8 : Int32) &&& 31).toUInt32).toInt32) &&& (255 : Int32)) % (7 : Int32))), .val (.int frm), .val (.int frm), .val (.int s_6), .val (.int (1 : Int32))] []))
  refine own_go (fun _ hr => XS.iconst X57.here hx rfl (hb hby at_179) (XS.goto X57.here hx rfl (pc0 := 180) (pc' := 184) rfl (hb hby at_180) (by decide) (by decide) hr)) ?_
  show own_Go p e below _ (T57.setTop (mkF m 184 #[.val (.int x0), .val (.int x1), .val (.int x2), .val (.ref b1), .val (.int frm), .val (.int ((((x2.toUInt32 >>> ((8 : Int32) &&& 31).toUInt32).toInt32) &&& (255 : Int32)) % (7 : Int32))), .val (.int frm), .val (.int frm), .val (.int s_6), .val (.int (1 : Int32))] [(.int (1 : Int32))]))
  exact own_retN X57 hx hlk Bd.returns (t := .boolean) (by simp) (hb hby at_184) (by decide) (by decide) ⟨rfl, N57⟩
set_option maxRecDepth 65536 in
set_option maxHeartbeats 40000000 in
theorem comes_1 {Post : Tables → Env → Array Value → State → Outcome → State → Prop} (hpost : ∀ tb e args s v u, (limb_1_1.after args s (.returned v) u = true ∧ limb_1_2.after args s (.returned v) u = true ∧ True) → FrameEnd s (.returned v) u (Jvm.fieldLocs frame_1_writes args s ++ Jvm.arrayLocs frame_1_arrays args s ++ Jvm.staticLocs frame_1_statics s) 16 128 → Post tb e args s (.returned v) u) :
    ArmFor flags0 classFile x code maxLocals ret World_1 tables_1 room_1 Calls_1 rest_1 Pre_1 Post := by
  intro l hfl _ _ p e ha hc hk s m args below hf hA hF happ hP
  obtain ⟨hcalls, hrest, hpre⟩ := hP
  obtain ⟨-, -, -, hnamed, -, -, -, hat⟩ := (Spec.applies_iff hf).mp happ
  obtain ⟨hg, hn⟩ := and_e (Cond.before_iff.mp (show (Jvm.Cond.and given_1 narrow_1).before args s = true from hpre))
  obtain ⟨g1, g2⟩ := and_e hg
  obtain ⟨g3, g4⟩ := and_e g2
  obtain ⟨g5, g6⟩ := and_e g4
  obtain ⟨w0, w1, w2, rfl⟩ : ∃ w0 w1 w2 : Value, args = #[w0, w1, w2] := by
    have hs : args.size = 3 := by simpa [Cond.value, given_1] using g1
    obtain ⟨L⟩ := args
    match L, hs with
    | [w0, w1, w2], _ => exact ⟨w0, w1, w2, rfl⟩
  have hw := fun d (hd : d ∈ tables_1) => atoms_spec (ws := Jvm.Cond.code x code maxLocals ret :: tables_1) hat d (List.mem_cons_of_mem _ hd)
  have hfit : Fit s := fun {y c} hc i hi => by
    obtain ⟨ha, rfl⟩ := Array.getElem?_eq_some_iff.mp hc
    have q := List.all_eq_true.mp ((Array.all_eq_true_iff_forall_mem.mp hF) _ (Array.getElem_mem ha)) i (List.mem_range.mpr hi)
    simpa [Array.getElem?_eq_getElem hi] using q
  obtain ⟨i0, ei0⟩ := is_v g3
  obtain rfl : w0 = (.int i0) := Option.some.inj ei0
  obtain ⟨i1, ei1⟩ := is_v g5
  obtain rfl : w1 = (.int i1) := Option.some.inj ei1
  obtain ⟨i2, ei2⟩ := is_v g6
  obtain rfl : w2 = (.int i2) := Option.some.inj ei2
  obtain ⟨n, o, h1, h2, h3, _, L, rfl, ⟨rfl, N⟩, hq⟩ := rm_law l s _ hw tables_1 i0 i1 i2 s.heap s.heap.size (Nat.le_refl _)  p e ha hc hk s m _ below hf ((Spec.applies_iff_loose hf).mp happ).1 ⟨rfl, State.Warmed39.refl s, rfl⟩ trivial
  refine ⟨n, _, h1, h2, h3, hpost _ _ _ _ _ _ ⟨Cond.after_iff.mpr rfl, Cond.after_iff.mpr (eq_i res_at (Term.int_eval (1)) rfl), trivial⟩ ⟨hq.1, hq.2.1, (hq.2.2.sift fun y hy => Or.inr (N y hy)).mono (by decide) (by decide)⟩⟩
theorem main_1_1 : Claimed_1_1 := comes_1 fun _ _ _ _ _ _ h hF => ⟨h.1, hF⟩
theorem main_1_2 : Claimed_1_2 := comes_1 fun _ _ _ _ _ _ h hF => ⟨h.2.1, hF⟩
end Jvm.Pilot.@@N@@
namespace Jvm.Pilot.@@N@@
open Jvm Jvm.ClassFile Sem Op Lib Jvm.Free Jvm.Stand Jvm.Pilot.@@N@@.Jvm.D
/-! MADE BY PROGRAM (witnessworld.py) out of the Statement's table words and the real class files: 10 classes; the members and pool entries that the words name. The judged class is class 1, her method 3. -/
namespace start1
open Jvm.ClassFile
def u (s : String) : CpInfo := .utf8 (stringToUtf16 s)
/-- a pool by its gaps: so many unusable entries, then the entry; so many at the end -/
def gap : Nat → List CpInfo → List CpInfo
  | 0, r => r
  | n + 1, r => .unusable :: gap n r
def poolList (es : List (Nat × CpInfo)) (last : Nat) : List CpInfo := es.foldr (fun e r => gap e.1 (e.2 :: r)) (gap last [])
def pool (es : List (Nat × CpInfo)) (last : Nat) : Array CpInfo := ⟨poolList es last⟩
def fileOf (pool : Array CpInfo) (this : Nat) (attrs : Array Attribute := #[]) (ms : Array MethodInfo := #[]) (fl : Nat := 33) (sup : Nat := 0) (ifs : Array Nat := #[]) (fds : Array FieldInfo := #[]) : ClassFile where
  minorVersion := 0
  majorVersion := 65
  constantPool := pool
  accessFlags := fl
  thisClass := this
  superClass := sup
  interfaces := ifs
  fields := fds
  methods := ms
  attributes := attrs
def plain (name : String) (sup : Option ClassId) : Class where
  name := name
  kind := .ordinary
  loader := none
  accessFlags := 33
  super := sup
  interfaces := #[]
  cf := none
  fields := #[]
  methods := #[]
  instanceTypes := #[]
  staticTypes := #[]
  resolved := #[]
  callSites := []
  init := .initialized
  statics := none
  mirror := none

def pool0 : Array CpInfo := pool [(5, u "<init>"), (0, u "()V"), (1, .class_ 10), (1, u "java/lang/Object")] 113

def k0m0 : Method := { name := "<init>", desc := "()V", sig := { parameters := [], returnType := none }, accessFlags := 1, code := none }
/-- java/lang/Object -/
def k0 : Class := { plain "java/lang/Object" none with
  accessFlags := 33
  interfaces := #[]
  cf := some (fileOf pool0 8 #[] #[{ accessFlags := 1, nameIndex := 5, descriptorIndex := 6, attributes := #[] }] 33 0 #[] #[])
  fields := #[]
  methods := #[k0m0]
  instanceTypes := #[]
  staticTypes := #[]
  resolved := Array.replicate 124 none
  statics := none }

def pool1 : Array CpInfo := pool [(2, .class_ 4), (1, u "java/lang/Object"), (0, u "<init>"), (0, u "()V"), (0, .integer 65536), (0, .methodref 9 10), (0, .class_ 11), (0, .nameAndType 12 13), (0, u "com/example/entryway/entryway/format/SourceWellFormedUtf8PinLaw"), (0, u "more"), (0, u "(IB)I"), (0, .integer 1114111), (0, .integer 55296), (0, .integer 57343), (0, .methodref 18 19), (0, .class_ 20), (0, .nameAndType 21 22), (0, u "java/lang/Math"), (0, u "min"), (0, u "(II)I"), (0, .methodref 18 24), (0, .nameAndType 25 22), (0, u "max"), (0, .methodref 9 27), (0, .nameAndType 28 29), (0, u "step"), (0, u "([BII)I"), (0, .methodref 31 32), (0, .class_ 33), (0, .nameAndType 34 35), (0, u "com/example/entryway/entryway/format/Source"), (0, u "wellFormedUtf8"), (0, u "([BII)Z"), (3, u "law"), (0, u "(III)Z")] 4

def k1m0 : Method := { name := "<init>", desc := "()V", sig := { parameters := [], returnType := none }, accessFlags := 2, code := none }
def k1c1 : Code := { maxStack := 3, maxLocals := 3, code := method_2_code, exceptionTable := #[], attributes := #[] }
def k1m1 : Method := { name := "more", desc := "(IB)I", sig := { parameters := [.int, .byte], returnType := some .int }, accessFlags := 10, code := some k1c1 }
def k1c2 : Code := { maxStack := 4, maxLocals := 7, code := method_3_code, exceptionTable := #[], attributes := #[] }
def k1m2 : Method := { name := "step", desc := "([BII)I", sig := { parameters := [(.array .byte), .int, .int], returnType := some .int }, accessFlags := 10, code := some k1c2 }
def k1c3 : Code := { maxStack := 4, maxLocals := 10, code := code, exceptionTable := #[], attributes := #[] }
def k1m3 : Method := { name := "law", desc := "(III)Z", sig := { parameters := [.int, .int, .int], returnType := some .boolean }, accessFlags := 9, code := some k1c3 }
/-- com/example/entryway/entryway/format/SourceWellFormedUtf8PinLaw -/
def k1 : Class := { plain "com/example/entryway/entryway/format/SourceWellFormedUtf8PinLaw" (some 0) with
  accessFlags := 49
  interfaces := #[]
  cf := some (fileOf pool1 9 #[] #[{ accessFlags := 2, nameIndex := 5, descriptorIndex := 6, attributes := #[] }, { accessFlags := 10, nameIndex := 12, descriptorIndex := 13, attributes := #[] }, { accessFlags := 10, nameIndex := 28, descriptorIndex := 29, attributes := #[] }, { accessFlags := 9, nameIndex := 39, descriptorIndex := 40, attributes := #[] }] 49 2 #[] #[])
  fields := #[]
  methods := #[k1m0, k1m1, k1m2, k1m3]
  instanceTypes := #[]
  staticTypes := #[]
  resolved := Array.replicate 45 none
  statics := none }

def pool2 : Array CpInfo := pool [(1, .class_ 2), (0, u "java/lang/Math"), (1, .class_ 6), (1, u "java/lang/Object"), (0, u "<init>"), (0, u "()V"), (89, .class_ 100), (1, u "java/lang/Math$RandomNumberGeneratorHolder"), (71, u "negativeZeroFloatBits"), (0, u "J"), (2, u "negativeZeroDoubleBits"), (21, u "max"), (2, u "min"), (43, u "$assertionsDisabled"), (0, u "Z"), (88, u "(II)I"), (2, u "twoToTheDoubleScaleDown"), (0, u "D"), (4, u "twoToTheDoubleScaleUp"), (9, u "E"), (3, u "PI"), (2, u "TAU"), (2, u "DEGREES_TO_RADIANS"), (0, u "RADIANS_TO_DEGREES")] 94

def k2m0 : Method := { name := "<init>", desc := "()V", sig := { parameters := [], returnType := none }, accessFlags := 2, code := none }
def k2c1 : Code := { maxStack := 2, maxLocals := 2, code := jdk_29_method_65_code, exceptionTable := #[], attributes := #[] }
def k2m1 : Method := { name := "max", desc := "(II)I", sig := { parameters := [.int, .int], returnType := some .int }, accessFlags := 9, code := some k2c1 }
def k2c2 : Code := { maxStack := 2, maxLocals := 2, code := jdk_29_method_69_code, exceptionTable := #[], attributes := #[] }
def k2m2 : Method := { name := "min", desc := "(II)I", sig := { parameters := [.int, .int], returnType := some .int }, accessFlags := 9, code := some k2c2 }
/-- java/lang/Math -/
def k2 : Class := { plain "java/lang/Math" (some 0) with
  accessFlags := 49
  interfaces := #[]
  cf := some (fileOf pool2 1 #[.nestMembers #[98]] #[{ accessFlags := 2, nameIndex := 7, descriptorIndex := 8, attributes := #[] }, { accessFlags := 9, nameIndex := 198, descriptorIndex := 335, attributes := #[] }, { accessFlags := 9, nameIndex := 201, descriptorIndex := 335, attributes := #[] }] 49 4 #[] #[{ accessFlags := 25, nameIndex := 354, descriptorIndex := 339, attributes := #[] }, { accessFlags := 25, nameIndex := 358, descriptorIndex := 339, attributes := #[] }, { accessFlags := 25, nameIndex := 361, descriptorIndex := 339, attributes := #[] }, { accessFlags := 26, nameIndex := 364, descriptorIndex := 339, attributes := #[] }, { accessFlags := 26, nameIndex := 365, descriptorIndex := 339, attributes := #[] }, { accessFlags := 26, nameIndex := 172, descriptorIndex := 173, attributes := #[] }, { accessFlags := 26, nameIndex := 176, descriptorIndex := 173, attributes := #[] }, { accessFlags := 8, nameIndex := 344, descriptorIndex := 339, attributes := #[] }, { accessFlags := 8, nameIndex := 338, descriptorIndex := 339, attributes := #[] }, { accessFlags := 4120, nameIndex := 245, descriptorIndex := 246, attributes := #[] }])
  fields := #[{ name := "E", type := .double, accessFlags := 25, slot := 0, constantValue := 0 }, { name := "PI", type := .double, accessFlags := 25, slot := 1, constantValue := 0 }, { name := "TAU", type := .double, accessFlags := 25, slot := 2, constantValue := 0 }, { name := "DEGREES_TO_RADIANS", type := .double, accessFlags := 26, slot := 3, constantValue := 0 }, { name := "RADIANS_TO_DEGREES", type := .double, accessFlags := 26, slot := 4, constantValue := 0 }, { name := "negativeZeroFloatBits", type := .long, accessFlags := 26, slot := 5, constantValue := 0 }, { name := "negativeZeroDoubleBits", type := .long, accessFlags := 26, slot := 6, constantValue := 0 }, { name := "twoToTheDoubleScaleUp", type := .double, accessFlags := 8, slot := 7, constantValue := 0 }, { name := "twoToTheDoubleScaleDown", type := .double, accessFlags := 8, slot := 8, constantValue := 0 }, { name := "$assertionsDisabled", type := .boolean, accessFlags := 4120, slot := 9, constantValue := 0 }]
  methods := #[k2m0, k2m1, k2m2]
  instanceTypes := #[]
  staticTypes := #[.double, .double, .double, .double, .double, .long, .long, .double, .double, .boolean]
  resolved := Array.replicate 460 none
  statics := none }

def pool3 : Array CpInfo := pool [(2, .class_ 4), (1, u "java/lang/Object"), (0, u "<init>"), (0, u "()V"), (0, .class_ 8), (0, u "com/example/entryway/entryway/format/Source$Bytes"), (3, .class_ 13), (0, u "com/example/entryway/entryway/format/Source$Chars"), (3, .class_ 18), (0, u "com/example/entryway/entryway/format/Source"), (18, u "wellFormedUtf8"), (0, u "([BII)Z")] 9

def k3m0 : Method := { name := "<init>", desc := "()V", sig := { parameters := [], returnType := none }, accessFlags := 0, code := none }
def k3c1 : Code := { maxStack := 2, maxLocals := 11, code := prog_68_method_11_code, exceptionTable := #[], attributes := #[] }
def k3m1 : Method := { name := "wellFormedUtf8", desc := "([BII)Z", sig := { parameters := [(.array .byte), .int, .int], returnType := some .boolean }, accessFlags := 8, code := some k3c1 }
/-- com/example/entryway/entryway/format/Source -/
def k3 : Class := { plain "com/example/entryway/entryway/format/Source" (some 0) with
  accessFlags := 1056
  interfaces := #[]
  cf := some (fileOf pool3 17 #[.nestMembers #[12, 7]] #[{ accessFlags := 0, nameIndex := 5, descriptorIndex := 6, attributes := #[] }, { accessFlags := 8, nameIndex := 37, descriptorIndex := 38, attributes := #[] }] 1056 2 #[] #[])
  fields := #[]
  methods := #[k3m0, k3m1]
  instanceTypes := #[]
  staticTypes := #[]
  resolved := Array.replicate 48 none
  statics := none }

def pool4 : Array CpInfo := pool [(1, u "java/lang/Cloneable"), (0, .class_ 1), (0, u "java/lang/Object"), (0, .class_ 3)] 3

/-- java/lang/Cloneable -/
def k4 : Class := { plain "java/lang/Cloneable" (some 0) with
  accessFlags := 1537
  interfaces := #[]
  cf := some (fileOf pool4 2 #[] #[] 1537 4 #[] #[])
  fields := #[]
  methods := #[]
  instanceTypes := #[]
  staticTypes := #[]
  resolved := Array.replicate 8 none
  statics := none }

def pool5 : Array CpInfo := pool [(1, u "java/io/Serializable"), (0, .class_ 1), (0, u "java/lang/Object"), (0, .class_ 3)] 3

/-- java/io/Serializable -/
def k5 : Class := { plain "java/io/Serializable" (some 0) with
  accessFlags := 1537
  interfaces := #[]
  cf := some (fileOf pool5 2 #[] #[] 1537 4 #[] #[])
  fields := #[]
  methods := #[]
  instanceTypes := #[]
  staticTypes := #[]
  resolved := Array.replicate 8 none
  statics := none }

/-- the primitive byte -/
def k6 : Class := { plain "byte" none with kind := .primitive 'B', accessFlags := 0x411 }
/-- [B -/
def k7 : Class := { plain "[B" (some 0) with kind := .array 6 .byte, interfaces := #[4, 5], accessFlags := 1041 }

/-- the primitive int -/
def k8 : Class := { plain "int" none with kind := .primitive 'I', accessFlags := 0x411 }
/-- [I -/
def k9 : Class := { plain "[I" (some 0) with kind := .array 8 .int, interfaces := #[4, 5], accessFlags := 1041 }

def heap : Heap := #[]
def classes : Array Class := #[k0, k1, k2, k3, k4, k5, k6, k7, k8, k9]
def interned : List (Array UInt16 × Addr) := []
def slotsUsed : Nat := 0
def theMethod : MethodId := ⟨1, 3⟩
def args0 : Array Value := #[.int 5, .int 5, .int 5]
def aboutOver (below : List Frame) : State where
  vm := { classes := classes, interned := interned.toArray }
  heap := heap
  slotsUsed := slotsUsed
  threads := #[{ frames := .invoking theMethod args0 :: below }]
def below0 : List Frame := [.native { method := ⟨0, 0⟩, args := #[] }]
def about1 : State := aboutOver below0
def p0 : Program := .bare "" "" ""
def e0 : Env := launch0.env 0 0 0
theorem w_frames : about1.frames = Frame.invoking theMethod args0 :: below0 := rfl
set_option maxRecDepth 65536 in
theorem w_args : argsFit about1.vm theMethod args0 = true := by decide +kernel
set_option maxRecDepth 65536 in
theorem w_heap : heapFits about1 = true := by decide +kernel
set_option maxRecDepth 65536 in
theorem w_runnable : about1.curStatus? = some .runnable := by decide +kernel
set_option maxRecDepth 65536 in
theorem w_alone : about1.alone = true := by decide +kernel
set_option maxRecDepth 65536 in
theorem w_named : about1.methodNamed? x = some theMethod := by decide +kernel
set_option maxRecDepth 65536 in
theorem w_hears : about1.hears theMethod below0 = true := by decide +kernel
set_option maxRecDepth 65536 in
theorem w_ripe : about1.ripe theMethod args0 below0 = true := by decide +kernel
theorem w_running : about1.status = .running := rfl
set_option maxRecDepth 65536 in
theorem w_room : about1.hasRoom e0.platform room_1 = true :=
  launch0.hasRoom_least _ room_1 (by decide +kernel) (by decide +kernel) (by decide +kernel) (by decide +kernel) (by decide +kernel) (by decide +kernel)
theorem allAtoms_all (ts : List Jvm.Cond) (a : Array Jvm.Value) (st : Jvm.State) : (allAtoms ts).before a st = ts.all (fun c => c.before a st) := by
  induction ts with
  | nil => rfl
  | cons c t ih =>
    show (Jvm.Cond.and c (allAtoms t)).before a st = _
    rw [Jvm.Cond.before_and, ih, List.all_cons]
def words1 : List Jvm.Cond := Jvm.Cond.code x code maxLocals ret :: tables_1
/-- a 'code' word, met by the world's own term for the bytes: nothing is compared byte by byte -/
theorem code_word {y : MethodName} {bytes : ByteArray} {mx : Nat} {rt : Option FieldType} {a : Array Value} {s : State} {m : MethodId} {meth : Method} {c : Code} (h1 : s.methodNamed? y = some m) (h2 : s.vm.method? m = some meth) (h3 : meth.code = some c) (h4 : c.code = bytes)
    (h5 : (c.maxLocals == mx && c.exceptionTable.isEmpty && decide (c.maxStack ≤ mostOperands) && decide (meth.sig.returnType = rt) && !meth.locks && decide (parseMethodDescriptor y.desc = some meth.sig)) = true) : (Jvm.Cond.code y bytes mx rt).before a s = true := by
  simp only [Bool.and_eq_true, beq_iff_eq, Bool.not_eq_true', decide_eq_true_eq] at h5
  obtain ⟨⟨⟨⟨⟨g1, g2⟩, g3⟩, g4⟩, g5⟩, g6⟩ := h5
  simp [Cond.before, Cond.holds, Cond.value, h1, h2, h3, h4, g1, g2, g3, g4, g5, g6]
def isCode : Jvm.Cond → Bool
  | .code _ _ _ _ => true
  | _ => false
theorem all_split {L : List Jvm.Cond} {P : Jvm.Cond → Bool} (h1 : L.all (fun c => isCode c || P c) = true) (h2 : ∀ c ∈ L.filter isCode, P c = true) : L.all P = true := by
  refine List.all_eq_true.mpr fun c hc => ?_
  have h := List.all_eq_true.mp h1 c hc
  rcases Bool.eq_false_or_eq_true (isCode c) with hi | hi
  · exact h2 c (List.mem_filter.mpr ⟨hc, hi⟩)
  · simpa [hi] using h
set_option maxRecDepth 65536 in
theorem w_c0 : (Jvm.Cond.code x code maxLocals ret).before args0 about1 = true := code_word (m := ⟨1, 3⟩) (meth := k1m3) (c := k1c3) (by decide +kernel) rfl rfl rfl (by decide +kernel)
set_option maxRecDepth 65536 in
theorem w_c1 : (Jvm.Cond.code ({ cls := "java/lang/Math", name := "min", desc := "(II)I" } : Jvm.MethodName) jdk_29_method_69_code (2 : Nat) (Option.some Jvm.ClassFile.FieldType.int)).before args0 about1 = true := code_word (m := ⟨2, 2⟩) (meth := k2m2) (c := k2c2) (by decide +kernel) rfl rfl rfl (by decide +kernel)
set_option maxRecDepth 65536 in
theorem w_c2 : (Jvm.Cond.code ({ cls := "java/lang/Math", name := "max", desc := "(II)I" } : Jvm.MethodName) jdk_29_method_65_code (2 : Nat) (Option.some Jvm.ClassFile.FieldType.int)).before args0 about1 = true := code_word (m := ⟨2, 1⟩) (meth := k2m1) (c := k2c1) (by decide +kernel) rfl rfl rfl (by decide +kernel)
set_option maxRecDepth 65536 in
theorem w_c3 : (Jvm.Cond.code ({ cls := "com/example/entryway/entryway/format/SourceWellFormedUtf8PinLaw", name := "step", desc := "([BII)I" } : Jvm.MethodName) method_3_code (7 : Nat) (Option.some Jvm.ClassFile.FieldType.int)).before args0 about1 = true := code_word (m := ⟨1, 2⟩) (meth := k1m2) (c := k1c2) (by decide +kernel) rfl rfl rfl (by decide +kernel)
set_option maxRecDepth 65536 in
theorem w_c4 : (Jvm.Cond.code ({ cls := "com/example/entryway/entryway/format/Source", name := "wellFormedUtf8", desc := "([BII)Z" } : Jvm.MethodName) prog_68_method_11_code (11 : Nat) (Option.some Jvm.ClassFile.FieldType.boolean)).before args0 about1 = true := code_word (m := ⟨3, 1⟩) (meth := k3m1) (c := k3c1) (by decide +kernel) rfl rfl rfl (by decide +kernel)
set_option maxRecDepth 65536 in
theorem w_c5 : (Jvm.Cond.code ({ cls := "com/example/entryway/entryway/format/SourceWellFormedUtf8PinLaw", name := "more", desc := "(IB)I" } : Jvm.MethodName) method_2_code (3 : Nat) (Option.some Jvm.ClassFile.FieldType.int)).before args0 about1 = true := code_word (m := ⟨1, 1⟩) (meth := k1m1) (c := k1c1) (by decide +kernel) rfl rfl rfl (by decide +kernel)
def codes1 : List Jvm.Cond := [Jvm.Cond.code x code maxLocals ret, Jvm.Cond.code ({ cls := "java/lang/Math", name := "min", desc := "(II)I" } : Jvm.MethodName) jdk_29_method_69_code (2 : Nat) (Option.some Jvm.ClassFile.FieldType.int), Jvm.Cond.code ({ cls := "java/lang/Math", name := "max", desc := "(II)I" } : Jvm.MethodName) jdk_29_method_65_code (2 : Nat) (Option.some Jvm.ClassFile.FieldType.int), Jvm.Cond.code ({ cls := "com/example/entryway/entryway/format/SourceWellFormedUtf8PinLaw", name := "step", desc := "([BII)I" } : Jvm.MethodName) method_3_code (7 : Nat) (Option.some Jvm.ClassFile.FieldType.int), Jvm.Cond.code ({ cls := "com/example/entryway/entryway/format/Source", name := "wellFormedUtf8", desc := "([BII)Z" } : Jvm.MethodName) prog_68_method_11_code (11 : Nat) (Option.some Jvm.ClassFile.FieldType.boolean), Jvm.Cond.code ({ cls := "com/example/entryway/entryway/format/SourceWellFormedUtf8PinLaw", name := "more", desc := "(IB)I" } : Jvm.MethodName) method_2_code (3 : Nat) (Option.some Jvm.ClassFile.FieldType.int)]
set_option maxRecDepth 65536 in
theorem codes_eq : words1.filter isCode = codes1 := rfl
theorem w_codes : ∀ c ∈ words1.filter isCode, c.before args0 about1 = true := by
  rw [codes_eq]
  intro c hc
  simp only [codes1, List.mem_cons, List.not_mem_nil, or_false] at hc
  rcases hc with rfl | rfl | rfl | rfl | rfl | rfl
  · exact w_c0
  · exact w_c1
  · exact w_c2
  · exact w_c3
  · exact w_c4
  · exact w_c5
set_option maxRecDepth 65536 in
theorem w_t1 : words1.all (fun c => isCode c || c.before args0 about1) = true := by decide +kernel
theorem w_tables : (allAtoms (Jvm.Cond.code x code maxLocals ret :: tables_1)).before args0 about1 = true := by
  rw [allAtoms_all]
  show words1.all (fun c => c.before args0 about1) = true
  refine all_split ?_ w_codes
  rw [w_t1]
set_option maxRecDepth 65536 in
theorem w_case : (Jvm.Cond.and given_1 narrow_1).before args0 about1 = true := by decide +kernel
theorem w_applies : (headSpec (Jvm.Cond.code x code maxLocals ret :: tables_1) room_1).applies x e0.platform about1 = true :=
  (Spec.applies_iff w_frames).mpr ⟨w_running, w_runnable, w_alone, w_named, w_hears, w_ripe, w_room, w_tables⟩
theorem atStart : AtStart classFile x code maxLocals ret World_1 tables_1 room_1 Calls_1 rest_1 Pre_1 launch0 p0 e0 about1 theMethod args0 below0 :=
  ⟨lists_1, trivial, launch0.admits_env _ _ _, launch0.least_env, fairChoices_fair.cas, fairChoices_fair.clock, w_frames, w_args, w_heap, w_applies, trivial, trivial, w_case⟩
end start1
theorem witness_1 : WitnessClaimed_1 := ⟨start1.p0, start1.e0, start1.about1, start1.theMethod, start1.args0, start1.below0, start1.atStart⟩
end Jvm.Pilot.@@N@@
