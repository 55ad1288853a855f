import JvmDerived
import JvmDerived.Pilot.@@N@@Statement
import JvmDerived.Pilot.@@N@@Code
set_option linter.unusedVariables false
set_option linter.unusedSimpArgs false
namespace Jvm.RoadKit
open Sem ClassFile Op Lib Jvm.Stand Jvm.Free Jvm.LawKit
section Own
variable {p : Program} {l : Launch} {e : Env} {R : Room} {s : State} {m : MethodId} {args : Array Value} {below : List Frame} {meth : Method} {c : Code} {T : State} {locs : List Loc} {cells slots : Nat}
/-- from S the run comes to an end of which K holds -/
def own_Go (p : Program) (e : Env) (below : List Frame) (K : State → Outcome → Prop) (S : State) : Prop := ∃ t o, Steps p.tables e below S t ∧ t.status = .running ∧ Ended t below o ∧ K t o
def own_K (s : State) (Q : Option Value → Heap → List Loc → Prop) (k n : Nat) (t : State) (o : Outcome) : Prop := ∃ v L, o = .returned v ∧ Q v t.heap L ∧ FrameEnd s o t L k n
theorem own_go {K : State → Outcome → Prop} {S S' : State} (h : ∀ t, Steps p.tables e below S' t → Steps p.tables e below S t) (g : own_Go p e below K S') : own_Go p e below K S := by
  obtain ⟨t, o, h1, h2⟩ := g; exact ⟨t, o, h t h1, h2⟩
theorem own_via {K : State → Outcome → Prop} {S S' : State} (h : Steps p.tables e below S S') (g : own_Go p e below K S') : own_Go p e below K S := by
  obtain ⟨t, o, h1, h2⟩ := g; exact ⟨t, o, h.trans h1, h2⟩
variable {Q : Option Value → Heap → List Loc → Prop} {k n : Nat}
theorem own_end (X : Stand p l e R s m args below meth c T locs cells slots) {v : Option Value} (hlk : meth.locks = false) (hv : meth.sig.returnType = none → v = none) (hk : cells ≤ k) (hn : slots ≤ n) (hQ : Q v T.heap locs) {S : State}
    (st : ∀ fs, (∀ (f : JFrame) (acts : List Action), f.method = m → f.locked = none → f.entered = [] → (doReturn e (T.setTop f) acts v).1 = T.setFrames fs) → Steps p.tables e below S (T.setFrames fs)) : own_Go p e below (own_K s Q k n) S := by
  obtain ⟨fs, hr, hrun, hended, hW, hsame⟩ := X.leave hv hlk
  exact ⟨_, _, st fs hr, hrun, hended, v, locs, rfl, hQ, ⟨_, rfl⟩, hW, hsame.mono hk hn⟩
theorem own_ret0 (X : Stand p l e R s m args below meth c T locs cells slots) (hx : p.tables.exec = Jvm.exec) (hlk : meth.locks = false) (hret : meth.sig.returnType = none) {pc : Nat} {Ls : Array Slot} (hd : decode c.code pc = .ok (.return_, 1)) (hk : cells ≤ k) (hn : slots ≤ n) (hQ : Q none T.heap locs) :
    own_Go p e below (own_K s Q k n) (T.setTop (mkF m pc Ls [])) := own_end X hlk (fun _ => rfl) hk hn hQ fun _ hr => X.returnOut hx hret hd hr
theorem own_retN (X : Stand p l e R s m args below meth c T locs cells slots) (hx : p.tables.exec = Jvm.exec) (hlk : meth.locks = false) {t : FieldType} (hret : meth.sig.returnType = some t) (ht : t = .boolean ∨ t = .byte ∨ t = .char ∨ t = .short) {pc : Nat} {Ls : Array Slot} {z : Int32} {rest : List Value} (hd : decode c.code pc = .ok (.ireturn, 1)) (hk : cells ≤ k) (hn : slots ≤ n) (hQ : Q (some (.int (nar t z))) T.heap locs) :
    own_Go p e below (own_K s Q k n) (T.setTop (mkF m pc Ls (.int z :: rest))) := own_end X hlk (fun h => by rw [hret] at h; cases h) hk hn hQ fun _ hr => retN X hx hret ht hd hr
theorem own_retI (X : Stand p l e R s m args below meth c T locs cells slots) (hx : p.tables.exec = Jvm.exec) (hlk : meth.locks = false) (hret : meth.sig.returnType = some .int) {pc : Nat} {Ls : Array Slot} {z : Int32} {rest : List Value} (hd : decode c.code pc = .ok (.ireturn, 1)) (hk : cells ≤ k) (hn : slots ≤ n) (hQ : Q (some (.int z)) T.heap locs) :
    own_Go p e below (own_K s Q k n) (T.setTop (mkF m pc Ls (.int z :: rest))) := own_end X hlk (fun h => by rw [hret] at h; cases h) hk hn hQ fun _ hr => retOut X hx hret rfl (Or.inl ⟨rfl, Or.inl rfl, z, rfl⟩) hd hr
theorem own_retJ (X : Stand p l e R s m args below meth c T locs cells slots) (hx : p.tables.exec = Jvm.exec) (hlk : meth.locks = false) (hret : meth.sig.returnType = some .long) {pc : Nat} {Ls : Array Slot} {z : Int64} {rest : List Value} (hd : decode c.code pc = .ok (.lreturn, 1)) (hk : cells ≤ k) (hn : slots ≤ n) (hQ : Q (some (.long z)) T.heap locs) :
    own_Go p e below (own_K s Q k n) (T.setTop (mkF m pc Ls (.long z :: rest))) := own_end X hlk (fun h => by rw [hret] at h; cases h) hk hn hQ fun _ hr => retOut X hx hret rfl (Or.inr (Or.inl ⟨rfl, rfl, z, rfl⟩)) hd hr
theorem own_retR (X : Stand p l e R s m args below meth c T locs cells slots) (hx : p.tables.exec = Jvm.exec) (hlk : meth.locks = false) {t : FieldType} (hret : meth.sig.returnType = some t) (ht : t.isReference = true) {pc : Nat} {Ls : Array Slot} {w : Value} {rest : List Value} (hw : w.isRef = true) (hd : decode c.code pc = .ok (.areturn, 1)) (hk : cells ≤ k) (hn : slots ≤ n) (hQ : Q (some w) T.heap locs) :
    own_Go p e below (own_K s Q k n) (T.setTop (mkF m pc Ls (w :: rest))) := own_end X hlk (fun h => by rw [hret] at h; cases h) hk hn hQ fun _ hr => retOut X hx hret (by cases t <;> first | rfl | cases ht) (Or.inr (Or.inr (Or.inr (Or.inr ⟨rfl, ht, hw⟩)))) hd hr
section Arrays
variable {Z : State} {h : Heap} {a : Addr} {k : ClassId} {ty : FieldType} {z : Int32} {vs : List Value} {dv : Value}
theorem own_iaload (X : Stand p l e R s m args below meth c T locs cells slots) (hx : p.tables.exec = Jvm.exec) (hZ : Z.Warmed39 s.vm) (eT : T.heap = h) (F : Arv Z h a k .int z vs dv) (j : Int32) (v : Value) (hj : ¬ j < 0 ∧ j < z) (hat : vs.getD j.toNatClampNeg dv = v) {g : JFrame} (hg : g.method = m) {rest : List Value} (hs : g.stack = .int j :: .ref a :: rest) (hd : decode c.code g.pc = .ok (.iaload, 1)) {target : State}
    (hr : Steps p.tables e below (T.setTop { g with pc := g.pc + 1, stack := v :: rest }) target) : Steps p.tables e below (T.setTop g) target := by
  obtain ⟨cl, A, q, S, N, H, G⟩ := F
  have hi := inb_of S hj
  exact X.iaload hx (j := j) (v := v) (by rw [eT]; exact A.1) (State.isArrayOf_alike hZ.alike A.2.1) A.2.2 hi (Has.at H hi hat) hg hs hd _ hr
theorem own_caload (X : Stand p l e R s m args below meth c T locs cells slots) (hx : p.tables.exec = Jvm.exec) (hZ : Z.Warmed39 s.vm) (eT : T.heap = h) (F : Arv Z h a k .char z vs dv) (j : Int32) (v : Value) (hj : ¬ j < 0 ∧ j < z) (hat : vs.getD j.toNatClampNeg dv = v) {g : JFrame} (hg : g.method = m) {rest : List Value} (hs : g.stack = .int j :: .ref a :: rest) (hd : decode c.code g.pc = .ok (.caload, 1)) {target : State}
    (hr : Steps p.tables e below (T.setTop { g with pc := g.pc + 1, stack := v :: rest }) target) : Steps p.tables e below (T.setTop g) target := by
  obtain ⟨cl, A, q, S, N, H, G⟩ := F
  have hi := inb_of S hj
  exact X.caload hx (j := j) (v := v) (by rw [eT]; exact A.1) (State.isArrayOf_alike hZ.alike A.2.1) A.2.2 hi (Has.at H hi hat) hg hs hd _ hr
theorem own_saload (X : Stand p l e R s m args below meth c T locs cells slots) (hx : p.tables.exec = Jvm.exec) (hZ : Z.Warmed39 s.vm) (eT : T.heap = h) (F : Arv Z h a k .short z vs dv) (j : Int32) (v : Value) (hj : ¬ j < 0 ∧ j < z) (hat : vs.getD j.toNatClampNeg dv = v) {g : JFrame} (hg : g.method = m) {rest : List Value} (hs : g.stack = .int j :: .ref a :: rest) (hd : decode c.code g.pc = .ok (.saload, 1)) {target : State}
    (hr : Steps p.tables e below (T.setTop { g with pc := g.pc + 1, stack := v :: rest }) target) : Steps p.tables e below (T.setTop g) target := by
  obtain ⟨cl, A, q, S, N, H, G⟩ := F
  have hi := inb_of S hj
  exact X.saload hx (j := j) (v := v) (by rw [eT]; exact A.1) (State.isArrayOf_alike hZ.alike A.2.1) A.2.2 hi (Has.at H hi hat) hg hs hd _ hr
theorem own_baload (X : Stand p l e R s m args below meth c T locs cells slots) (hx : p.tables.exec = Jvm.exec) (hZ : Z.Warmed39 s.vm) (eT : T.heap = h) (F : Arv Z h a k .byte z vs dv) (j : Int32) (v : Value) (hj : ¬ j < 0 ∧ j < z) (hat : vs.getD j.toNatClampNeg dv = v) {g : JFrame} (hg : g.method = m) {rest : List Value} (hs : g.stack = .int j :: .ref a :: rest) (hd : decode c.code g.pc = .ok (.baload, 1)) {target : State}
    (hr : Steps p.tables e below (T.setTop { g with pc := g.pc + 1, stack := v :: rest }) target) : Steps p.tables e below (T.setTop g) target := by
  obtain ⟨cl, A, q, S, N, H, G⟩ := F
  have hi := inb_of S hj
  exact X.baloadBytes hx (j := j) (v := v) (by rw [eT]; exact A.1) (State.isArrayOf_alike hZ.alike A.2.1) A.2.2 hi (Has.at H hi hat) hg hs hd _ hr
theorem own_zaload (X : Stand p l e R s m args below meth c T locs cells slots) (hx : p.tables.exec = Jvm.exec) (hZ : Z.Warmed39 s.vm) (eT : T.heap = h) (F : Arv Z h a k .boolean z vs dv) (j : Int32) (v : Value) (hj : ¬ j < 0 ∧ j < z) (hat : vs.getD j.toNatClampNeg dv = v) {g : JFrame} (hg : g.method = m) {rest : List Value} (hs : g.stack = .int j :: .ref a :: rest) (hd : decode c.code g.pc = .ok (.baload, 1)) {target : State}
    (hr : Steps p.tables e below (T.setTop { g with pc := g.pc + 1, stack := v :: rest }) target) : Steps p.tables e below (T.setTop g) target := by
  obtain ⟨cl, A, q, S, N, H, G⟩ := F
  have hi := inb_of S hj
  exact X.baloadBooleans hx (j := j) (v := v) (by rw [eT]; exact A.1) (State.isArrayOf_alike hZ.alike A.2.1) A.2.2 hi (Has.at H hi hat) hg hs hd _ hr
theorem own_laload (X : Stand p l e R s m args below meth c T locs cells slots) (hx : p.tables.exec = Jvm.exec) (hZ : Z.Warmed39 s.vm) (eT : T.heap = h) (F : Arv Z h a k .long z vs dv) (j : Int32) (v : Value) (hj : ¬ j < 0 ∧ j < z) (hat : vs.getD j.toNatClampNeg dv = v) {g : JFrame} (hg : g.method = m) {rest : List Value} (hs : g.stack = .int j :: .ref a :: rest) (hd : decode c.code g.pc = .ok (.laload, 1)) {target : State}
    (hr : Steps p.tables e below (T.setTop { g with pc := g.pc + 1, stack := v :: rest }) target) : Steps p.tables e below (T.setTop g) target := by
  obtain ⟨cl, A, q, S, N, H, G⟩ := F
  have hi := inb_of S hj
  exact X.laload hx (j := j) (v := v) (by rw [eT]; exact A.1) (State.isArrayOf_alike hZ.alike A.2.1) A.2.2 hi (Has.at H hi hat) hg hs hd _ hr
theorem own_aaload (X : Stand p l e R s m args below meth c T locs cells slots) (hx : p.tables.exec = Jvm.exec) (hZ : Z.Warmed39 s.vm) (eT : T.heap = h) (F : Arv Z h a k ty z vs dv) (j : Int32) (v : Value) (hj : ¬ j < 0 ∧ j < z) (hat : vs.getD j.toNatClampNeg dv = v) (hty : ty.isReference = true) {g : JFrame} (hg : g.method = m) {rest : List Value} (hs : g.stack = .int j :: .ref a :: rest) (hd : decode c.code g.pc = .ok (.aaload, 1)) {target : State}
    (hr : Steps p.tables e below (T.setTop { g with pc := g.pc + 1, stack := v :: rest }) target) : Steps p.tables e below (T.setTop g) target := by
  obtain ⟨cl, A, q, S, N, H, G⟩ := F
  have hi := inb_of S hj
  exact X.aaload hx (j := j) (v := v) (by rw [eT]; exact A.1) (State.isArrayOf_alike hZ.alike A.2.1) hty A.2.2 hi (Has.at H hi hat) hg hs hd _ hr
theorem own_alen (X : Stand p l e R s m args below meth c T locs cells slots) (hx : p.tables.exec = Jvm.exec) (hZ : Z.Warmed39 s.vm) (eT : T.heap = h) (F : Arv Z h a k ty z vs dv) {g : JFrame} (hg : g.method = m) {rest : List Value} (hs : g.stack = .ref a :: rest) (hd : decode c.code g.pc = .ok (.arraylength, 1)) {target : State}
    (hr : Steps p.tables e below (T.setTop { g with pc := g.pc + 1, stack := .int z :: rest }) target) : Steps p.tables e below (T.setTop g) target := by
  obtain ⟨cl, A, q, S, N, -, -⟩ := F
  exact X.arraylength hx (by rw [eT]; exact A.1) (State.isArrayOf_alike hZ.alike A.2.1) hg hs hd _ (by rw [len_of S N]; exact hr)
theorem own_stI {K : State → Outcome → Prop} {n0 : Nat} (X : Stand p l e R s m args below meth c T locs cells slots) (hx : p.tables.exec = Jvm.exec) (hZ : Z.Warmed39 s.vm) (eT : T.heap = h) (F : Arv Z h a k .int z vs dv) (j : Int32) (x : Int32) (i : Nat) (hj : ¬ j < 0 ∧ j < z) (hi : j.toNatClampNeg = i) (hl : i < vs.length) (vs' : List Value) (hv : vs.set i (.int x) = vs') (N : Fr n0 locs) (ge : n0 ≤ a) {pc : Nat} {Ls : Array Slot} {rest : List Value} (hd : decode c.code pc = .ok (.iastore, 1))
    (kk : ∀ (T' : State) (h' : Heap) (L' : List Loc), Stand p l e R s m args below meth c T' L' cells slots → T'.heap = h' → Wr h h' a i (.int x) → Fr n0 L' → Arv Z h' a k .int z vs' dv → own_Go p e below K (T'.setTop (mkF m (pc + 1) Ls rest))) : own_Go p e below K (T.setTop (mkF m pc Ls (.int x :: .int j :: .ref a :: rest))) := by
  obtain ⟨cl, A, q, S, M, H, G⟩ := F
  subst hi; subst hv
  obtain ⟨T', h', X', e', W, st⟩ := stI X hx hZ eT A (j := j) (inb_of S hj) (g := mkF m pc Ls (.int x :: .int j :: .ref a :: rest)) rfl rfl hd
  exact own_go st (kk T' h' _ X' e' W (Fr.snoc X' N ge) (Arv.set A q S M H G rfl W _ rfl hl))
theorem own_stJ {K : State → Outcome → Prop} {n0 : Nat} (X : Stand p l e R s m args below meth c T locs cells slots) (hx : p.tables.exec = Jvm.exec) (hZ : Z.Warmed39 s.vm) (eT : T.heap = h) (F : Arv Z h a k .long z vs dv) (j : Int32) (x : Int64) (i : Nat) (hj : ¬ j < 0 ∧ j < z) (hi : j.toNatClampNeg = i) (hl : i < vs.length) (vs' : List Value) (hv : vs.set i (.long x) = vs') (N : Fr n0 locs) (ge : n0 ≤ a) {pc : Nat} {Ls : Array Slot} {rest : List Value} (hd : decode c.code pc = .ok (.lastore, 1))
    (kk : ∀ (T' : State) (h' : Heap) (L' : List Loc), Stand p l e R s m args below meth c T' L' cells slots → T'.heap = h' → Wr h h' a i (.long x) → Fr n0 L' → Arv Z h' a k .long z vs' dv → own_Go p e below K (T'.setTop (mkF m (pc + 1) Ls rest))) : own_Go p e below K (T.setTop (mkF m pc Ls (.long x :: .int j :: .ref a :: rest))) := by
  obtain ⟨cl, A, q, S, M, H, G⟩ := F
  subst hi; subst hv
  obtain ⟨T', h', X', e', W, st⟩ := stJ X hx hZ eT A (j := j) (inb_of S hj) (g := mkF m pc Ls (.long x :: .int j :: .ref a :: rest)) rfl rfl hd
  exact own_go st (kk T' h' _ X' e' W (Fr.snoc X' N ge) (Arv.set A q S M H G rfl W _ rfl hl))
theorem own_stB {K : State → Outcome → Prop} {n0 : Nat} (X : Stand p l e R s m args below meth c T locs cells slots) (hx : p.tables.exec = Jvm.exec) (hZ : Z.Warmed39 s.vm) (eT : T.heap = h) (F : Arv Z h a k .byte z vs dv) (j : Int32) (x x' : Int32) (i : Nat) (hj : ¬ j < 0 ∧ j < z) (hi : j.toNatClampNeg = i) (hl : i < vs.length) (hn : nar .byte x = x') (vs' : List Value) (hv : vs.set i (.int x') = vs') (N : Fr n0 locs) (ge : n0 ≤ a) {pc : Nat} {Ls : Array Slot} {rest : List Value} (hd : decode c.code pc = .ok (.bastore, 1))
    (kk : ∀ (T' : State) (h' : Heap) (L' : List Loc), Stand p l e R s m args below meth c T' L' cells slots → T'.heap = h' → Wr h h' a i (.int x') → Fr n0 L' → Arv Z h' a k .byte z vs' dv → own_Go p e below K (T'.setTop (mkF m (pc + 1) Ls rest))) : own_Go p e below K (T.setTop (mkF m pc Ls (.int x :: .int j :: .ref a :: rest))) := by
  obtain ⟨cl, A, q, S, M, H, G⟩ := F
  subst hn; subst hi; subst hv
  obtain ⟨T', h', X', e', W, st⟩ := stB X hx hZ eT A (j := j) (inb_of S hj) (g := mkF m pc Ls (.int x :: .int j :: .ref a :: rest)) rfl rfl hd
  exact own_go st (kk T' h' _ X' e' W (Fr.snoc X' N ge) (Arv.set A q S M H G (fits_nar_byte _) W _ rfl hl))
theorem own_stZ {K : State → Outcome → Prop} {n0 : Nat} (X : Stand p l e R s m args below meth c T locs cells slots) (hx : p.tables.exec = Jvm.exec) (hZ : Z.Warmed39 s.vm) (eT : T.heap = h) (F : Arv Z h a k .boolean z vs dv) (j : Int32) (x x' : Int32) (i : Nat) (hj : ¬ j < 0 ∧ j < z) (hi : j.toNatClampNeg = i) (hl : i < vs.length) (hn : nar .boolean x = x') (vs' : List Value) (hv : vs.set i (.int x') = vs') (N : Fr n0 locs) (ge : n0 ≤ a) {pc : Nat} {Ls : Array Slot} {rest : List Value} (hd : decode c.code pc = .ok (.bastore, 1))
    (kk : ∀ (T' : State) (h' : Heap) (L' : List Loc), Stand p l e R s m args below meth c T' L' cells slots → T'.heap = h' → Wr h h' a i (.int x') → Fr n0 L' → Arv Z h' a k .boolean z vs' dv → own_Go p e below K (T'.setTop (mkF m (pc + 1) Ls rest))) : own_Go p e below K (T.setTop (mkF m pc Ls (.int x :: .int j :: .ref a :: rest))) := by
  obtain ⟨cl, A, q, S, M, H, G⟩ := F
  subst hn; subst hi; subst hv
  obtain ⟨T', h', X', e', W, st⟩ := stZ X hx hZ eT A (j := j) (inb_of S hj) (g := mkF m pc Ls (.int x :: .int j :: .ref a :: rest)) rfl rfl hd
  exact own_go st (kk T' h' _ X' e' W (Fr.snoc X' N ge) (Arv.set A q S M H G (fits_nar_bool _) W _ rfl hl))
theorem own_stC {K : State → Outcome → Prop} {n0 : Nat} (X : Stand p l e R s m args below meth c T locs cells slots) (hx : p.tables.exec = Jvm.exec) (hZ : Z.Warmed39 s.vm) (eT : T.heap = h) (F : Arv Z h a k .char z vs dv) (j : Int32) (x x' : Int32) (i : Nat) (hj : ¬ j < 0 ∧ j < z) (hi : j.toNatClampNeg = i) (hl : i < vs.length) (hn : nar .char x = x') (vs' : List Value) (hv : vs.set i (.int x') = vs') (N : Fr n0 locs) (ge : n0 ≤ a) {pc : Nat} {Ls : Array Slot} {rest : List Value} (hd : decode c.code pc = .ok (.castore, 1))
    (kk : ∀ (T' : State) (h' : Heap) (L' : List Loc), Stand p l e R s m args below meth c T' L' cells slots → T'.heap = h' → Wr h h' a i (.int x') → Fr n0 L' → Arv Z h' a k .char z vs' dv → own_Go p e below K (T'.setTop (mkF m (pc + 1) Ls rest))) : own_Go p e below K (T.setTop (mkF m pc Ls (.int x :: .int j :: .ref a :: rest))) := by
  obtain ⟨cl, A, q, S, M, H, G⟩ := F
  subst hn; subst hi; subst hv
  obtain ⟨T', h', X', e', W, st⟩ := stC X hx hZ eT A (j := j) (inb_of S hj) (g := mkF m pc Ls (.int x :: .int j :: .ref a :: rest)) rfl rfl hd
  exact own_go st (kk T' h' _ X' e' W (Fr.snoc X' N ge) (Arv.set A q S M H G (fits_nar_char _) W _ rfl hl))
theorem own_stS {K : State → Outcome → Prop} {n0 : Nat} (X : Stand p l e R s m args below meth c T locs cells slots) (hx : p.tables.exec = Jvm.exec) (hZ : Z.Warmed39 s.vm) (eT : T.heap = h) (F : Arv Z h a k .short z vs dv) (j : Int32) (x x' : Int32) (i : Nat) (hj : ¬ j < 0 ∧ j < z) (hi : j.toNatClampNeg = i) (hl : i < vs.length) (hn : nar .short x = x') (vs' : List Value) (hv : vs.set i (.int x') = vs') (N : Fr n0 locs) (ge : n0 ≤ a) {pc : Nat} {Ls : Array Slot} {rest : List Value} (hd : decode c.code pc = .ok (.sastore, 1))
    (kk : ∀ (T' : State) (h' : Heap) (L' : List Loc), Stand p l e R s m args below meth c T' L' cells slots → T'.heap = h' → Wr h h' a i (.int x') → Fr n0 L' → Arv Z h' a k .short z vs' dv → own_Go p e below K (T'.setTop (mkF m (pc + 1) Ls rest))) : own_Go p e below K (T.setTop (mkF m pc Ls (.int x :: .int j :: .ref a :: rest))) := by
  obtain ⟨cl, A, q, S, M, H, G⟩ := F
  subst hn; subst hi; subst hv
  obtain ⟨T', h', X', e', W, st⟩ := stS X hx hZ eT A (j := j) (inb_of S hj) (g := mkF m pc Ls (.int x :: .int j :: .ref a :: rest)) rfl rfl hd
  exact own_go st (kk T' h' _ X' e' W (Fr.snoc X' N ge) (Arv.set A q S M H G (fits_nar_short _) W _ rfl hl))
theorem own_stR {K : State → Outcome → Prop} {n0 : Nat} (X : Stand p l e R s m args below meth c T locs cells slots) (hx : p.tables.exec = Jvm.exec) (hZ : Z.Warmed39 s.vm) (eT : T.heap = h) (F : Arv Z h a k ty z vs dv) (j : Int32) (v : Value) (i : Nat) (hj : ¬ j < 0 ∧ j < z) (hi : j.toNatClampNeg = i) (hl : i < vs.length) (sto : ∀ cl : Cell, Arr Z h a cl ty → cl.cls = k → Sto Z h a v) (hty : ty.isReference = true) (vs' : List Value) (hv : vs.set i v = vs') (N : Fr n0 locs) (ge : n0 ≤ a) {pc : Nat} {Ls : Array Slot} {rest : List Value} (hd : decode c.code pc = .ok (.aastore, 1))
    (kk : ∀ (T' : State) (h' : Heap) (L' : List Loc), Stand p l e R s m args below meth c T' L' cells slots → T'.heap = h' → Wr h h' a i v → Fr n0 L' → Arv Z h' a k ty z vs' dv → own_Go p e below K (T'.setTop (mkF m (pc + 1) Ls rest))) : own_Go p e below K (T.setTop (mkF m pc Ls (v :: .int j :: .ref a :: rest))) := by
  obtain ⟨cl, A, q, S, M, H, G⟩ := F
  subst hi; subst hv
  have so := sto cl A q
  obtain ⟨T', h', X', e', W, st⟩ := stR X hx hZ eT A (j := j) (inb_of S hj) hty so (g := mkF m pc Ls (v :: .int j :: .ref a :: rest)) rfl rfl hd
  have fv : fits ty v = true := by
    rcases so with rfl | ⟨_, _, _, _, _, _, _, y, _, _, _, _, rfl, _⟩ <;> cases ty <;> first | rfl | cases hty
  exact own_go st (kk T' h' _ X' e' W (Fr.snoc X' N ge) (Arv.set A q S M H G fv W _ rfl hl))
end Arrays
section Calls
variable {own : String} {index : Nat} {y z : MethodName} {bytes : ByteArray} {maxL : Nat} {ret : Option FieldType} {rm : Room} {W : Nat} {as' : Array Value} {Z : State} {a0 : Array Value} {h : Heap} {K : State → Outcome → Prop} {pc : Nat} {Ls : Array Slot} {argsL rest stk : List Value} {C : String} {b : Addr}
theorem own_cs (X : Stand p l e R s m args below meth c T locs cells slots) (hx : p.tables.exec = Jvm.exec) (hZ : Z.Warmed39 s.vm) (hown : s.vm.findClass own = some m.cls) (w1 : (Cond.methodLink own index y).before a0 Z = true) (w2 : (Cond.static y).before a0 Z = true) (w3 : (Cond.initialized y.cls).before a0 Z = true) (w4 : (Cond.code y bytes maxL ret).before a0 Z = true)
    (hy : y.cls ≠ "java/lang/invoke/MethodHandle" ∧ y.cls ≠ "java/lang/invoke/VarHandle")
    (hM : MetFree l y (head1 [Cond.code y bytes maxL ret] rm) (fun a U => a = as' ∧ Z.Warmed39 U.vm ∧ U.heap = h) (fun _ _ _ _ _ => True) (fun _ U o U' => ∃ v L, o = .returned v ∧ Q v U'.heap L ∧ FrameEnd U o U' L rm.cells rm.slots))
    (hf : rm.frames + 1 ≤ R.frames) (hl : W + (maxL + 11) + rm.locals ≤ R.locals) (hc : cells + rm.cells ≤ R.cells) (hs : slots + rm.slots ≤ R.slots) (eT : T.heap = h) (hsz : Ls.size = c.maxLocals) (hlen : ∀ sig, parseMethodDescriptor y.desc = some sig → argsL.length = sig.parameters.length)
    (hst : stk = argsL.reverse ++ rest) (has : argsL.toArray = as') (hW : (rest.map fun v => v.category).sum ≤ W) (hd : decode c.code pc = .ok (.invokestatic index, 3))
    (k : ∀ (v : Option Value) (T' : State) (L : List Loc), Stand p l e R s m args below meth c T' (locs ++ L) (cells + rm.cells) (slots + rm.slots) → Q v T'.heap L → own_Go p e below K (T'.setTop (mkF m (pc + 3) Ls (v.toList ++ rest)))) : own_Go p e below K (T.setTop (mkF m pc Ls stk)) := by
  obtain ⟨v, _, ⟨T', L', k', n'⟩, -, X', ⟨L, hQ, h1, h2, h3⟩, st⟩ := Jvm.LawKit.callS X hx (y := y) hown (mvT hZ w1) (mvT hZ w2) (mvT hZ w3) (mvT hZ w4) hy (backOf (W := W) hM hZ w4 w3 hf hl) (g := mkF m pc Ls stk) rfl hsz (argsL := argsL) (rest := rest) hlen hst (by show 2 * 0 + _ ≤ _; simpa using hW) hd (fun _ _ => ⟨has, eT, hc, hs⟩)
  dsimp only [Pt.U, Pt.locs, Pt.cells, Pt.slots] at X' h1 h2 h3 st hQ
  subst h1 h2 h3
  exact own_go st (k v T' L X' hQ)
theorem own_cp (X : Stand p l e R s m args below meth c T locs cells slots) (hx : p.tables.exec = Jvm.exec) (hZ : Z.Warmed39 s.vm) (hown : s.vm.findClass own = some m.cls) (hy1 : y.name = "<init>") (w1 : (Cond.methodLink own index y).before a0 Z = true) (w2 : (Cond.instanceMethod y).before a0 Z = true) (w3 : (Cond.initialized y.cls).before a0 Z = true) (w4 : (Cond.code y bytes maxL none).before a0 Z = true)
    (hy : y.cls ≠ "java/lang/invoke/MethodHandle" ∧ y.cls ≠ "java/lang/invoke/VarHandle")
    (hM : MetFree l y (head1 [Cond.code y bytes maxL none] rm) (fun a U => a = as' ∧ Z.Warmed39 U.vm ∧ U.heap = h) (fun _ _ _ _ _ => True) (fun _ U o U' => ∃ v L, o = .returned v ∧ Q v U'.heap L ∧ FrameEnd U o U' L rm.cells rm.slots))
    (hf : rm.frames + 1 ≤ R.frames) (hl : W + (maxL + 11) + rm.locals ≤ R.locals) (hc : cells + rm.cells ≤ R.cells) (hs : slots + rm.slots ≤ R.slots) (eT : T.heap = h) (hsz : Ls.size = c.maxLocals) (hlen : ∀ sig, parseMethodDescriptor y.desc = some sig → argsL.length = sig.parameters.length)
    (hst : stk = argsL.reverse ++ .ref b :: rest) (has : (.ref b :: argsL).toArray = as') (hW : (rest.map fun v => v.category).sum ≤ W) (hd : decode c.code pc = .ok (.invokespecial index, 3))
    (k : ∀ (v : Option Value) (T' : State) (L : List Loc), Stand p l e R s m args below meth c T' (locs ++ L) (cells + rm.cells) (slots + rm.slots) → Q v T'.heap L → own_Go p e below K (T'.setTop (mkF m (pc + 3) Ls (v.toList ++ rest)))) : own_Go p e below K (T.setTop (mkF m pc Ls stk)) := by
  obtain ⟨v, _, ⟨T', L', k', n'⟩, -, X', ⟨L, hQ, h1, h2, h3⟩, st⟩ := X.specialBack hx (y := y) hy1 hown (mvT hZ w1) (mvT hZ w2) (mvT hZ w4) hy (backOf (W := W) hM hZ w4 w3 hf hl) (g := mkF m pc Ls stk) rfl hsz (Steps.refl _) (a := b) (argsL := argsL) (rest := rest) hlen hst (by show 2 * 0 + _ ≤ _; simpa using hW) hd (fun _ _ => ⟨has, eT, hc, hs⟩)
  dsimp only [Pt.U, Pt.locs, Pt.cells, Pt.slots] at X' h1 h2 h3 st hQ
  subst h1 h2 h3
  exact own_via st (k v T' L X' hQ)
theorem own_cv (X : Stand p l e R s m args below meth c T locs cells slots) (hx : p.tables.exec = Jvm.exec) (hZ : Z.Warmed39 s.vm) (hown : s.vm.findClass own = some m.cls) (nf : NotFace s y) (w1 : (Cond.methodLink own index y).before a0 Z = true) (w2 : (Cond.declares y).before a0 Z = true) (w5 : (Cond.selects C y z).before a0 Z = true) (w6 : (Cond.instanceMethod z).before a0 Z = true) (w3 : (Cond.initialized z.cls).before a0 Z = true) (w4 : (Cond.code z bytes maxL ret).before a0 Z = true)
    (hy : y.cls ≠ "java/lang/invoke/MethodHandle" ∧ y.cls ≠ "java/lang/invoke/VarHandle") (E : Exa Z h b C)
    (hM : MetFree l z (head1 [Cond.code z bytes maxL ret] rm) (fun a U => a = as' ∧ Z.Warmed39 U.vm ∧ U.heap = h) (fun _ _ _ _ _ => True) (fun _ U o U' => ∃ v L, o = .returned v ∧ Q v U'.heap L ∧ FrameEnd U o U' L rm.cells rm.slots))
    (hf : rm.frames + 1 ≤ R.frames) (hl : W + (maxL + 11) + rm.locals ≤ R.locals) (hc : cells + rm.cells ≤ R.cells) (hs : slots + rm.slots ≤ R.slots) (eT : T.heap = h) (hsz : Ls.size = c.maxLocals) (hlen : ∀ sig, parseMethodDescriptor y.desc = some sig → argsL.length = sig.parameters.length)
    (hst : stk = argsL.reverse ++ .ref b :: rest) (has : (.ref b :: argsL).toArray = as') (hW : (rest.map fun v => v.category).sum ≤ W) (hd : decode c.code pc = .ok (.invokevirtual index, 3))
    (k : ∀ (v : Option Value) (T' : State) (L : List Loc), Stand p l e R s m args below meth c T' (locs ++ L) (cells + rm.cells) (slots + rm.slots) → Q v T'.heap L → own_Go p e below K (T'.setTop (mkF m (pc + 3) Ls (v.toList ++ rest)))) : own_Go p e below K (T.setTop (mkF m pc Ls stk)) := by
  obtain ⟨cq, kq, qa, qb, qc⟩ := isOf hZ eT E
  obtain ⟨v, _, ⟨T', L', k', n'⟩, -, X', ⟨L, hQ, h1, h2, h3⟩, st⟩ := X.virtualBack hx (y := y) (z := z) hown (mvT hZ w1) (mvT hZ w2) nf (mvT hZ w5) (mvT hZ w6) hy (backOf (W := W) hM hZ w4 w3 hf hl) qa qc (g := mkF m pc Ls stk) rfl hsz (Steps.refl _) (argsL := argsL) (rest := rest) hlen hst (by show 2 * 0 + _ ≤ _; simpa using hW) hd (fun _ _ => ⟨has, eT, hc, hs⟩)
  dsimp only [Pt.U, Pt.locs, Pt.cells, Pt.slots] at X' h1 h2 h3 st hQ
  subst h1 h2 h3
  exact own_via st (k v T' L X' hQ)
theorem own_cq (X : Stand p l e R s m args below meth c T locs cells slots) (hx : p.tables.exec = Jvm.exec) (hZ : Z.Warmed39 s.vm) (hown : s.vm.findClass own = some m.cls) (w1 : (Cond.methodLink own index y).before a0 Z = true) (w6 : (Cond.instanceMethod y).before a0 Z = true) (w5 : (Cond.selects y.cls y y).before a0 Z = true) (w7 : (Cond.privateMethod y).before a0 Z = true) (w3 : (Cond.initialized y.cls).before a0 Z = true) (w4 : (Cond.code y bytes maxL ret).before a0 Z = true)
    (hy : y.cls ≠ "java/lang/invoke/MethodHandle" ∧ y.cls ≠ "java/lang/invoke/VarHandle") (E : Exa Z h b C)
    (hM : MetFree l y (head1 [Cond.code y bytes maxL ret] rm) (fun a U => a = as' ∧ Z.Warmed39 U.vm ∧ U.heap = h) (fun _ _ _ _ _ => True) (fun _ U o U' => ∃ v L, o = .returned v ∧ Q v U'.heap L ∧ FrameEnd U o U' L rm.cells rm.slots))
    (hf : rm.frames + 1 ≤ R.frames) (hl : W + (maxL + 11) + rm.locals ≤ R.locals) (hc : cells + rm.cells ≤ R.cells) (hs : slots + rm.slots ≤ R.slots) (eT : T.heap = h) (hsz : Ls.size = c.maxLocals) (hlen : ∀ sig, parseMethodDescriptor y.desc = some sig → argsL.length = sig.parameters.length)
    (hst : stk = argsL.reverse ++ .ref b :: rest) (has : (.ref b :: argsL).toArray = as') (hW : (rest.map fun v => v.category).sum ≤ W) (hd : decode c.code pc = .ok (.invokevirtual index, 3))
    (k : ∀ (v : Option Value) (T' : State) (L : List Loc), Stand p l e R s m args below meth c T' (locs ++ L) (cells + rm.cells) (slots + rm.slots) → Q v T'.heap L → own_Go p e below K (T'.setTop (mkF m (pc + 3) Ls (v.toList ++ rest)))) : own_Go p e below K (T.setTop (mkF m pc Ls stk)) := by
  obtain ⟨cq, q1, q2⟩ := E.cell
  obtain ⟨v, _, ⟨T', L', k', n'⟩, -, X', ⟨L, hQ, h1, h2, h3⟩, st⟩ := X.privateBack hx (y := y) hown (mvT hZ w1) (mvT hZ w6) (mvT hZ w5) (Cond.privateMethod_at (mvP hZ w7 (args := #[]))) (mvT hZ w4) hy (backOf (W := W) hM hZ w4 w3 hf hl) (g := mkF m pc Ls stk) rfl hsz (Steps.refl _) (a := b) (by rw [eT]; exact q1) q2 (argsL := argsL) (rest := rest) hlen hst (by show 2 * 0 + _ ≤ _; simpa using hW) hd (fun _ _ => ⟨has, eT, hc, hs⟩)
  dsimp only [Pt.U, Pt.locs, Pt.cells, Pt.slots] at X' h1 h2 h3 st hQ
  subst h1 h2 h3
  exact own_via st (k v T' L X' hQ)
theorem own_cu {owner : String} (X : Stand p l e R s m args below meth c T locs cells slots) (hx : p.tables.exec = Jvm.exec) (hZ : Z.Warmed39 s.vm) (hown : s.vm.findClass own = some m.cls) (w1 : (Cond.methodLink own index y).before a0 Z = true) (w8 : (Cond.sameMethod y.cls owner y.name y.desc).before a0 Z = true) (w2 : (Cond.declares ⟨owner, y.name, y.desc⟩).before a0 Z = true) (w5 : (Cond.selects C y z).before a0 Z = true) (w6 : (Cond.instanceMethod z).before a0 Z = true) (w3 : (Cond.initialized z.cls).before a0 Z = true) (w4 : (Cond.code z bytes maxL ret).before a0 Z = true)
    (hy : owner ≠ "java/lang/invoke/MethodHandle" ∧ owner ≠ "java/lang/invoke/VarHandle") (E : Exa Z h b C)
    (hM : MetFree l z (head1 [Cond.code z bytes maxL ret] rm) (fun a U => a = as' ∧ Z.Warmed39 U.vm ∧ U.heap = h) (fun _ _ _ _ _ => True) (fun _ U o U' => ∃ v L, o = .returned v ∧ Q v U'.heap L ∧ FrameEnd U o U' L rm.cells rm.slots))
    (hf : rm.frames + 1 ≤ R.frames) (hl : W + (maxL + 11) + rm.locals ≤ R.locals) (hc : cells + rm.cells ≤ R.cells) (hs : slots + rm.slots ≤ R.slots) (eT : T.heap = h) (hsz : Ls.size = c.maxLocals) (hlen : ∀ sig, parseMethodDescriptor y.desc = some sig → argsL.length = sig.parameters.length)
    (hst : stk = argsL.reverse ++ .ref b :: rest) (has : (.ref b :: argsL).toArray = as') (hW : (rest.map fun v => v.category).sum ≤ W) (hd : decode c.code pc = .ok (.invokevirtual index, 3))
    (k : ∀ (v : Option Value) (T' : State) (L : List Loc), Stand p l e R s m args below meth c T' (locs ++ L) (cells + rm.cells) (slots + rm.slots) → Q v T'.heap L → own_Go p e below K (T'.setTop (mkF m (pc + 3) Ls (v.toList ++ rest)))) : own_Go p e below K (T.setTop (mkF m pc Ls stk)) := by
  obtain ⟨cq, kq, qa, qb, qc⟩ := isOf hZ eT E
  obtain ⟨v, _, ⟨T', L', k', n'⟩, -, X', ⟨L, hQ, h1, h2, h3⟩, st⟩ := X.virtualBackUp hx (x := y) (y := z) (owner := owner) hown (mvT hZ w1) (mvT hZ w8) (mvT hZ w2) hy (mvT hZ w5) (mvT hZ w6) (backOf (W := W) hM hZ w4 w3 hf hl) qa qc (g := mkF m pc Ls stk) rfl hsz (Steps.refl _) (argsL := argsL) (rest := rest) hlen hst (by show 2 * 0 + _ ≤ _; simpa using hW) hd (fun _ _ => ⟨has, eT, hc, hs⟩)
  dsimp only [Pt.U, Pt.locs, Pt.cells, Pt.slots] at X' h1 h2 h3 st hQ
  subst h1 h2 h3
  exact own_via st (k v T' L X' hQ)
end Calls
theorem own_fld_eq {Z : State} {h : Heap} {a : Addr} {C n d : String} {v w : Value} (F : Fld Z h a C n d v) (G : Fld Z h a C n d w) : v = w := Classical.byContradiction fun q => Fld.ne F G q rfl
theorem own_nsroot {Z : State} {a0 : Array Value} {O K : String} {n : Nat} (w : (Cond.noSuperclass O).before a0 Z = true) (wk : (Cond.instantiable K n).before a0 Z = true) (hn : O ≠ K) : NS Z O K := by
  obtain ⟨c, k, h1, h2, h3, -, -⟩ := Cond.noSuperclass_spec w
  obtain ⟨t, kt, g1, -⟩ := Cond.instantiable_spec wk
  have ne := ids_ne h1 g1 hn
  refine ⟨c, t, h1, g1, fun fuel => ?_⟩
  cases fuel with
  | zero => rfl
  | succ f => simp [Vm.isSubclassAux, ne, h2, h3]
theorem own_nsno {Z : State} {a0 : Array Value} {C S K : String} {n : Nat} (w : (Cond.superclass C S).before a0 Z = true) (wk : (Cond.instantiable K n).before a0 Z = true) (nn : NS Z C K) (hn : C ≠ K) : ∃ c t, Z.vm.findClass C = some c ∧ Z.vm.findClass K = some t ∧ Z.vm.assignable c t = false := by
  obtain ⟨c, t, h0, g0, n3⟩ := nn
  obtain ⟨p, k, kp, h1, h2, h3, h4, h5, -, h7⟩ := Cond.superclass_spec h0 w
  obtain ⟨t', kt, g1, g2, g5, g6, -⟩ := Cond.instantiable_spec wk
  cases g0.symm.trans g1
  have g7 : kt.isInterface = false := by simp only [Bool.or_eq_false_iff] at g6; exact g6.1
  have ne := ids_ne h0 g0 hn
  refine ⟨c, t, h0, g0, ?_⟩
  show Z.vm.assignableAux (255 + 1) c t = false
  simp [Vm.assignableAux, ne, h2, g2, h5, g5, g7, Vm.isSubclass, n3]
theorem own_ns_exa {Z : State} {h : Heap} {a : Addr} {C : String} (F : Exa Z h a C) : ∀ cell : Cell, h[a]? = some cell → cell.vm.isStatics = false := fun cell hc => by
  obtain ⟨c, _, h1, -, -, h4, -⟩ := F; cases h1.symm.trans hc; exact h4
theorem own_ns_arv {Z : State} {h : Heap} {a : Addr} {k : ClassId} {ty : FieldType} {z : Int32} {vs : List Value} {dv : Value} (F : Arv Z h a k ty z vs dv) : ∀ cell : Cell, h[a]? = some cell → cell.vm.isStatics = false := fun cell hc => by
  obtain ⟨c, A, -⟩ := F; cases A.1.symm.trans hc; exact A.plain
theorem own_sta_keep {Z : State} {h h' : Heap} {C f d : String} {v : Value} {ws : List Addr} (F : Sta Z h C f d v) (K : Keep h h' ws) (q : ∀ x ∈ ws, ∀ cell : Cell, h[x]? = some cell → cell.vm.isStatics = false) : Sta Z h' C f d v := by
  obtain ⟨cf, i, k, fl, st, cell, h1, h2, h3, h4, h5, h6, h7⟩ := F
  exact ⟨cf, i, k, fl, st, cell, h1, h2, h3, h4, K.2.1 _ _ h5 (fun hm => by rw [q _ hm _ h5] at h6; cases h6), h6, h7⟩
end Own
end Jvm.RoadKit
namespace Jvm.Pilot.@@N@@
open Jvm Jvm.ClassFile Sem Op Lib Jvm.Free Jvm.Stand Jvm.LawKit Jvm.RoadKit Bundle Jvm.Pilot.@@N@@.Jvm.D
theorem own_m (i : Nat) {d : Jvm.Cond} (h : tables_1[i]? = some d) : d ∈ tables_1 := List.mem_of_getElem? h
theorem own_eq_int {args : Array Value} {s first : State} {o : Option Outcome} {idx : List Nat} {t : Term} {k : Int32} (h : (Cond.eq t (.int k)).value args first o s idx = some true) : t.eval args first o idx s = some (.int k) := by
  obtain ⟨x, y, h1, h2, h3, h4⟩ := cmp_v (r := true) (Or.inl h)
  have e2 : y = .int k := (Option.some.inj h2).symm
  subst e2
  obtain ⟨z, rfl⟩ := h4
  have q := h
  simp only [Cond.value, h1, h2] at q
  have : z = k := by simpa using q
  rw [h1, this]
theorem own_eq_ref {args : Array Value} {s first : State} {o : Option Outcome} {idx : List Nat} {t u : Term} {a : Addr} (hu : u.eval args first o idx s = some (.ref a)) (h : (Cond.eq t u).value args first o s idx = some true) : t.eval args first o idx s = some (.ref a) := by
  obtain ⟨x, y, h1, h2, h3, h4⟩ := cmp_v (r := true) (Or.inl h)
  cases hu.symm.trans h2
  have q := h
  simp only [Cond.value, h1, h2] at q
  cases x <;> simp [Kin, Value.isRef] at h3 h4 q ⊢
  rw [h1, q]
theorem own_d_prog_90_method_4_code_0 : decode prog_90_method_4_code 0 = .ok (.iload_n 0, 1) := by decide +kernel
theorem own_d_prog_90_method_4_code_1 : decode prog_90_method_4_code 1 = .ok (.ifCond .eq 14, 3) := by decide +kernel
theorem own_d_prog_90_method_4_code_15 : decode prog_90_method_4_code 15 = .ok (.iload_n 0, 1) := by decide +kernel
theorem own_d_prog_90_method_4_code_16 : decode prog_90_method_4_code 16 = .ok (.ifCond .eq 10, 3) := by decide +kernel
theorem own_d_prog_90_method_4_code_26 : decode prog_90_method_4_code 26 = .ok (.iload_n 1, 1) := by decide +kernel
theorem own_d_prog_90_method_4_code_27 : decode prog_90_method_4_code 27 = .ok (.ifCond .eq 10, 3) := by decide +kernel
theorem own_d_prog_90_method_4_code_37 : decode prog_90_method_4_code 37 = .ok (.getstatic 10, 3) := by decide +kernel
theorem own_d_prog_90_method_4_code_40 : decode prog_90_method_4_code 40 = .ok (.astore_n 2, 1) := by decide +kernel
theorem own_d_prog_90_method_4_code_41 : decode prog_90_method_4_code 41 = .ok (.aload_n 2, 1) := by decide +kernel
theorem own_d_prog_90_method_4_code_42 : decode prog_90_method_4_code 42 = .ok (.areturn, 1) := by decide +kernel
theorem own_pn_com_example_candid_facts_candidfacts_Truth : plainName "com/example/candid_facts/candidfacts/Truth" = true := by first | (simp [plainName, overriddenIn]; done) | decide +kernel
def Q_a1_of (Z : State) (r_UNKNOWN : Addr) (h0 : Heap) (n0 : Nat) (v : Option Value) (h : Heap) (L : List Loc) : Prop := v = some (.ref r_UNKNOWN) ∧ Fr n0 L ∧ h = h0
set_option maxRecDepth 65536 in
set_option maxHeartbeats 40000000 in
theorem rm_a1_of (l : Launch) (Z : State) (a0 : Array Value) (hw : ∀ d ∈ tables_1, d.before a0 Z = true) (ws : List Jvm.Cond) (r_UNKNOWN : Addr) (h0 : Heap) (n0 : Nat) (Z0 : n0 ≤ h0.size) (S_UNKNOWN : Sta Z h0 "com/example/candid_facts/candidfacts/Truth" "UNKNOWN" "Lcom/example/candid_facts/candidfacts/Truth;" (.ref r_UNKNOWN)) :
    MetFree l (⟨"com/example/candid_facts/candidfacts/Truth", "of", "(ZZ)Lcom/example/candid_facts/candidfacts/Truth;"⟩ : MethodName) (head1 (Jvm.Cond.code (⟨"com/example/candid_facts/candidfacts/Truth", "of", "(ZZ)Lcom/example/candid_facts/candidfacts/Truth;"⟩ : MethodName) prog_90_method_4_code 3 (some (.object "com/example/candid_facts/candidfacts/Truth")) :: ws) ({ frames := 0, cells := 0, slots := 0, locals := 0 } : Room)) (fun a U => a = #[(.int (0 : Int32)), (.int (0 : Int32))] ∧ Z.Warmed39 U.vm ∧ U.heap = h0) (fun _ _ _ _ _ => True) (fun _ U o U' => ∃ v L, o = .returned v ∧ Q_a1_of Z r_UNKNOWN h0 n0 v U'.heap L ∧ FrameEnd U o U' L ({ frames := 0, cells := 0, slots := 0, locals := 0 } : Room).cells ({ frames := 0, cells := 0, slots := 0, locals := 0 } : Room).slots) := by
  refine MetFree.of_bodySF (plainFor_of_name own_pn_com_example_candid_facts_candidfacts_Truth) hisR ?_
  intro p e s m args below meth c s₁ Bd hml0 hP hK
  obtain ⟨rfl, hZ, hh⟩ := hP
  have hx := Bd.exec
  have hby := Bd.bytes
  have hlk : meth.locks = false := BodyLoose.notSynchronized Bd
  have hml : c.maxLocals = 3 := hml0
  have hown : s.vm.findClass "com/example/candid_facts/candidfacts/Truth" = some m.cls := findClass_of_methodNamed Bd.named
  have hnm := (name_of_methodNamed Bd.named Bd.method).1
  have X0 : Stand p l e ({ frames := 0, cells := 0, slots := 0, locals := 0 } : Room) s m #[(.int (0 : Int32)), (.int (0 : Int32))] below meth c s₁ [] 0 0 := Stand.of_body Bd
  have e0 : s₁.heap = h0 := by rw [← hh, Bd.state]; rfl
  have N0 := Fr.nil n0
  show own_Go p e below (own_K s (Q_a1_of Z r_UNKNOWN h0 n0) ({ frames := 0, cells := 0, slots := 0, locals := 0 } : Room).cells ({ frames := 0, cells := 0, slots := 0, locals := 0 } : Room).slots) (s₁.setTop (entryFrame m #[(.int (0 : Int32)), (.int (0 : Int32))] 3))
  rw [(by first | (simp [entryFrame, mkF, argsToLocals, Value.category]; done) | rfl : entryFrame m #[(.int (0 : Int32)), (.int (0 : Int32))] 3 = mkF m 0 #[.val (.int (0 : Int32)), .val (.int (0 : Int32)), .unset] [])]
  show own_Go p e below _ (s₁.setTop (mkF m 0 #[.val (.int (0 : Int32)), .val (.int (0 : Int32)), .unset] []))
  refine own_go (fun _ hr => XS.iloadN X0.here hx rfl (hb hby own_d_prog_90_method_4_code_0) rfl (XS.ifYes X0.here hx rfl (pc0 := 1) (pc' := 15) rfl (hb hby own_d_prog_90_method_4_code_1) rfl ((if0 _ _).trans (teq (by decide)).1) (by decide) (by decide) (XS.iloadN X0.here hx rfl (hb hby own_d_prog_90_method_4_code_15) rfl (XS.ifYes X0.here hx rfl (pc0 := 16) (pc' := 26) rfl (hb hby own_d_prog_90_method_4_code_16) rfl ((if0 _ _).trans (teq (by decide)).1) (by decide) (by decide) (XS.iloadN X0.here hx rfl (hb hby own_d_prog_90_method_4_code_26) rfl (XS.ifYes X0.here hx rfl (pc0 := 27) (pc' := 37) rfl (hb hby own_d_prog_90_method_4_code_27) rfl ((if0 _ _).trans (teq (by decide)).1) (by decide) (by decide) hr)))))) ?_
  show own_Go p e below _ (s₁.setTop (mkF m 37 #[.val (.int (0 : Int32)), .val (.int (0 : Int32)), .unset] []))
  obtain ⟨T1, X1, e1, st1⟩ := getS2 X0 hx hZ hown (host := "") (Or.inl (hw _ (own_m 20 rfl))) Via.refl e0 S_UNKNOWN (g := (mkF m 37 #[.val (.int (0 : Int32)), .val (.int (0 : Int32)), .unset] [])) rfl (hb hby own_d_prog_90_method_4_code_37)
  refine own_go st1 ?_
  show own_Go p e below _ (T1.setTop (mkF m 40 #[.val (.int (0 : Int32)), .val (.int (0 : Int32)), .unset] [(.ref r_UNKNOWN)]))
  refine own_go (fun _ hr => XS.astoreN X1.here hx rfl (hb hby own_d_prog_90_method_4_code_40) rfl rfl (l' := #[.val (.int (0 : Int32)), .val (.int (0 : Int32)), .val (.ref r_UNKNOWN)]) rfl (XS.aloadN X1.here hx rfl (hb hby own_d_prog_90_method_4_code_41) rfl rfl hr)) ?_
  show own_Go p e below _ (T1.setTop (mkF m 42 #[.val (.int (0 : Int32)), .val (.int (0 : Int32)), .val (.ref r_UNKNOWN)] [(.ref r_UNKNOWN)]))
  exact own_retR X1 hx hlk Bd.returns rfl rfl (hb hby own_d_prog_90_method_4_code_42) (by decide) (by decide) ⟨rfl, N0, e1⟩
theorem own_pd0 : parseMethodDescriptor "(ZZ)Lcom/example/candid_facts/candidfacts/Truth;" = some ⟨[.boolean, .boolean], some (.object "com/example/candid_facts/candidfacts/Truth")⟩ := by decide +kernel
theorem own_d_prog_90_method_5_code_0 : decode prog_90_method_5_code 0 = .ok (.aload_n 0, 1) := by decide +kernel
theorem own_d_prog_90_method_5_code_1 : decode prog_90_method_5_code 1 = .ok (.getfield 35, 3) := by decide +kernel
theorem own_d_prog_90_method_5_code_4 : decode prog_90_method_5_code 4 = .ok (.ireturn, 1) := by decide +kernel
def Q_a2_isKnownTrue (Z : State) (h0 : Heap) (n0 : Nat) (v : Option Value) (h : Heap) (L : List Loc) : Prop := v = some (.int (0 : Int32)) ∧ Fr n0 L ∧ h = h0
set_option maxRecDepth 65536 in
set_option maxHeartbeats 40000000 in
theorem rm_a2_isKnownTrue (l : Launch) (Z : State) (a0 : Array Value) (hw : ∀ d ∈ tables_1, d.before a0 Z = true) (ws : List Jvm.Cond) (r_UNKNOWN : Addr) (h0 : Heap) (n0 : Nat) (Z0 : n0 ≤ h0.size) (F_UNKNOWN_knownTrue : Fld Z h0 r_UNKNOWN "com/example/candid_facts/candidfacts/Truth" "knownTrue" "Z" (.int (0 : Int32))) :
    MetFree l (⟨"com/example/candid_facts/candidfacts/Truth", "isKnownTrue", "()Z"⟩ : MethodName) (head1 (Jvm.Cond.code (⟨"com/example/candid_facts/candidfacts/Truth", "isKnownTrue", "()Z"⟩ : MethodName) prog_90_method_5_code 1 (some .boolean) :: ws) ({ frames := 0, cells := 0, slots := 0, locals := 0 } : Room)) (fun a U => a = #[(.ref r_UNKNOWN)] ∧ Z.Warmed39 U.vm ∧ U.heap = h0) (fun _ _ _ _ _ => True) (fun _ U o U' => ∃ v L, o = .returned v ∧ Q_a2_isKnownTrue Z h0 n0 v U'.heap L ∧ FrameEnd U o U' L ({ frames := 0, cells := 0, slots := 0, locals := 0 } : Room).cells ({ frames := 0, cells := 0, slots := 0, locals := 0 } : Room).slots) := by
  refine MetFree.of_bodySF (plainFor_of_name own_pn_com_example_candid_facts_candidfacts_Truth) hisR ?_
  intro p e s m args below meth c s₁ Bd hml0 hP hK
  obtain ⟨rfl, hZ, hh⟩ := hP
  have hx := Bd.exec
  have hby := Bd.bytes
  have hlk : meth.locks = false := BodyLoose.notSynchronized Bd
  have hml : c.maxLocals = 1 := hml0
  have hown : s.vm.findClass "com/example/candid_facts/candidfacts/Truth" = some m.cls := findClass_of_methodNamed Bd.named
  have hnm := (name_of_methodNamed Bd.named Bd.method).1
  have X0 : Stand p l e ({ frames := 0, cells := 0, slots := 0, locals := 0 } : Room) s m #[(.ref r_UNKNOWN)] below meth c s₁ [] 0 0 := Stand.of_body Bd
  have e0 : s₁.heap = h0 := by rw [← hh, Bd.state]; rfl
  have N0 := Fr.nil n0
  show own_Go p e below (own_K s (Q_a2_isKnownTrue Z h0 n0) ({ frames := 0, cells := 0, slots := 0, locals := 0 } : Room).cells ({ frames := 0, cells := 0, slots := 0, locals := 0 } : Room).slots) (s₁.setTop (entryFrame m #[(.ref r_UNKNOWN)] 1))
  rw [(by first | (simp [entryFrame, mkF, argsToLocals, Value.category]; done) | rfl : entryFrame m #[(.ref r_UNKNOWN)] 1 = mkF m 0 #[.val (.ref r_UNKNOWN)] [])]
  show own_Go p e below _ (s₁.setTop (mkF m 0 #[.val (.ref r_UNKNOWN)] []))
  refine own_go (fun _ hr => XS.aloadN X0.here hx rfl (hb hby own_d_prog_90_method_5_code_0) rfl rfl hr) ?_
  show own_Go p e below _ (s₁.setTop (mkF m 1 #[.val (.ref r_UNKNOWN)] [(.ref r_UNKNOWN)]))
  obtain ⟨T1, X1, e1, st1⟩ := getF X0 hx hZ hown (host := "") (Or.inl (hw _ (own_m 11 rfl))) Via.refl e0 F_UNKNOWN_knownTrue (g := (mkF m 1 #[.val (.ref r_UNKNOWN)] [(.ref r_UNKNOWN)])) rfl rfl (hb hby own_d_prog_90_method_5_code_1)
  refine own_go st1 ?_
  show own_Go p e below _ (T1.setTop (mkF m 4 #[.val (.ref r_UNKNOWN)] [(.int (0 : Int32))]))
  exact own_retN X1 hx hlk Bd.returns (t := .boolean) (by simp) (hb hby own_d_prog_90_method_5_code_4) (by decide) (by decide) ⟨rfl, N0, e1⟩
theorem own_pd1 : parseMethodDescriptor "()Z" = some ⟨[], some .boolean⟩ := by decide +kernel
theorem own_d_prog_90_method_6_code_0 : decode prog_90_method_6_code 0 = .ok (.aload_n 0, 1) := by decide +kernel
theorem own_d_prog_90_method_6_code_1 : decode prog_90_method_6_code 1 = .ok (.getfield 39, 3) := by decide +kernel
theorem own_d_prog_90_method_6_code_4 : decode prog_90_method_6_code 4 = .ok (.ireturn, 1) := by decide +kernel
def Q_a3_isKnownFalse (Z : State) (h0 : Heap) (n0 : Nat) (v : Option Value) (h : Heap) (L : List Loc) : Prop := v = some (.int (0 : Int32)) ∧ Fr n0 L ∧ h = h0
set_option maxRecDepth 65536 in
set_option maxHeartbeats 40000000 in
theorem rm_a3_isKnownFalse (l : Launch) (Z : State) (a0 : Array Value) (hw : ∀ d ∈ tables_1, d.before a0 Z = true) (ws : List Jvm.Cond) (r_UNKNOWN : Addr) (h0 : Heap) (n0 : Nat) (Z0 : n0 ≤ h0.size) (F_UNKNOWN_knownFalse : Fld Z h0 r_UNKNOWN "com/example/candid_facts/candidfacts/Truth" "knownFalse" "Z" (.int (0 : Int32))) :
    MetFree l (⟨"com/example/candid_facts/candidfacts/Truth", "isKnownFalse", "()Z"⟩ : MethodName) (head1 (Jvm.Cond.code (⟨"com/example/candid_facts/candidfacts/Truth", "isKnownFalse", "()Z"⟩ : MethodName) prog_90_method_6_code 1 (some .boolean) :: ws) ({ frames := 0, cells := 0, slots := 0, locals := 0 } : Room)) (fun a U => a = #[(.ref r_UNKNOWN)] ∧ Z.Warmed39 U.vm ∧ U.heap = h0) (fun _ _ _ _ _ => True) (fun _ U o U' => ∃ v L, o = .returned v ∧ Q_a3_isKnownFalse Z h0 n0 v U'.heap L ∧ FrameEnd U o U' L ({ frames := 0, cells := 0, slots := 0, locals := 0 } : Room).cells ({ frames := 0, cells := 0, slots := 0, locals := 0 } : Room).slots) := by
  refine MetFree.of_bodySF (plainFor_of_name own_pn_com_example_candid_facts_candidfacts_Truth) hisR ?_
  intro p e s m args below meth c s₁ Bd hml0 hP hK
  obtain ⟨rfl, hZ, hh⟩ := hP
  have hx := Bd.exec
  have hby := Bd.bytes
  have hlk : meth.locks = false := BodyLoose.notSynchronized Bd
  have hml : c.maxLocals = 1 := hml0
  have hown : s.vm.findClass "com/example/candid_facts/candidfacts/Truth" = some m.cls := findClass_of_methodNamed Bd.named
  have hnm := (name_of_methodNamed Bd.named Bd.method).1
  have X0 : Stand p l e ({ frames := 0, cells := 0, slots := 0, locals := 0 } : Room) s m #[(.ref r_UNKNOWN)] below meth c s₁ [] 0 0 := Stand.of_body Bd
  have e0 : s₁.heap = h0 := by rw [← hh, Bd.state]; rfl
  have N0 := Fr.nil n0
  show own_Go p e below (own_K s (Q_a3_isKnownFalse Z h0 n0) ({ frames := 0, cells := 0, slots := 0, locals := 0 } : Room).cells ({ frames := 0, cells := 0, slots := 0, locals := 0 } : Room).slots) (s₁.setTop (entryFrame m #[(.ref r_UNKNOWN)] 1))
  rw [(by first | (simp [entryFrame, mkF, argsToLocals, Value.category]; done) | rfl : entryFrame m #[(.ref r_UNKNOWN)] 1 = mkF m 0 #[.val (.ref r_UNKNOWN)] [])]
  show own_Go p e below _ (s₁.setTop (mkF m 0 #[.val (.ref r_UNKNOWN)] []))
  refine own_go (fun _ hr => XS.aloadN X0.here hx rfl (hb hby own_d_prog_90_method_6_code_0) rfl rfl hr) ?_
  show own_Go p e below _ (s₁.setTop (mkF m 1 #[.val (.ref r_UNKNOWN)] [(.ref r_UNKNOWN)]))
  obtain ⟨T1, X1, e1, st1⟩ := getF X0 hx hZ hown (host := "") (Or.inl (hw _ (own_m 18 rfl))) Via.refl e0 F_UNKNOWN_knownFalse (g := (mkF m 1 #[.val (.ref r_UNKNOWN)] [(.ref r_UNKNOWN)])) rfl rfl (hb hby own_d_prog_90_method_6_code_1)
  refine own_go st1 ?_
  show own_Go p e below _ (T1.setTop (mkF m 4 #[.val (.ref r_UNKNOWN)] [(.int (0 : Int32))]))
  exact own_retN X1 hx hlk Bd.returns (t := .boolean) (by simp) (hb hby own_d_prog_90_method_6_code_4) (by decide) (by decide) ⟨rfl, N0, e1⟩
theorem own_d_prog_90_method_4_code_30 : decode prog_90_method_4_code 30 = .ok (.getstatic 7, 3) := by decide +kernel
theorem own_d_prog_90_method_4_code_33 : decode prog_90_method_4_code 33 = .ok (.astore_n 2, 1) := by decide +kernel
theorem own_d_prog_90_method_4_code_34 : decode prog_90_method_4_code 34 = .ok (.goto 7, 3) := by decide +kernel
def Q_a4_of (Z : State) (r_FALSE : Addr) (h0 : Heap) (n0 : Nat) (v : Option Value) (h : Heap) (L : List Loc) : Prop := v = some (.ref r_FALSE) ∧ Fr n0 L ∧ h = h0
set_option maxRecDepth 65536 in
set_option maxHeartbeats 40000000 in
theorem rm_a4_of (l : Launch) (Z : State) (a0 : Array Value) (hw : ∀ d ∈ tables_1, d.before a0 Z = true) (ws : List Jvm.Cond) (r_FALSE : Addr) (h0 : Heap) (n0 : Nat) (Z0 : n0 ≤ h0.size) (S_FALSE : Sta Z h0 "com/example/candid_facts/candidfacts/Truth" "FALSE" "Lcom/example/candid_facts/candidfacts/Truth;" (.ref r_FALSE)) :
    MetFree l (⟨"com/example/candid_facts/candidfacts/Truth", "of", "(ZZ)Lcom/example/candid_facts/candidfacts/Truth;"⟩ : MethodName) (head1 (Jvm.Cond.code (⟨"com/example/candid_facts/candidfacts/Truth", "of", "(ZZ)Lcom/example/candid_facts/candidfacts/Truth;"⟩ : MethodName) prog_90_method_4_code 3 (some (.object "com/example/candid_facts/candidfacts/Truth")) :: ws) ({ frames := 0, cells := 0, slots := 0, locals := 0 } : Room)) (fun a U => a = #[(.int (0 : Int32)), (.int (1 : Int32))] ∧ Z.Warmed39 U.vm ∧ U.heap = h0) (fun _ _ _ _ _ => True) (fun _ U o U' => ∃ v L, o = .returned v ∧ Q_a4_of Z r_FALSE h0 n0 v U'.heap L ∧ FrameEnd U o U' L ({ frames := 0, cells := 0, slots := 0, locals := 0 } : Room).cells ({ frames := 0, cells := 0, slots := 0, locals := 0 } : Room).slots) := by
  refine MetFree.of_bodySF (plainFor_of_name own_pn_com_example_candid_facts_candidfacts_Truth) hisR ?_
  intro p e s m args below meth c s₁ Bd hml0 hP hK
  obtain ⟨rfl, hZ, hh⟩ := hP
  have hx := Bd.exec
  have hby := Bd.bytes
  have hlk : meth.locks = false := BodyLoose.notSynchronized Bd
  have hml : c.maxLocals = 3 := hml0
  have hown : s.vm.findClass "com/example/candid_facts/candidfacts/Truth" = some m.cls := findClass_of_methodNamed Bd.named
  have hnm := (name_of_methodNamed Bd.named Bd.method).1
  have X0 : Stand p l e ({ frames := 0, cells := 0, slots := 0, locals := 0 } : Room) s m #[(.int (0 : Int32)), (.int (1 : Int32))] below meth c s₁ [] 0 0 := Stand.of_body Bd
  have e0 : s₁.heap = h0 := by rw [← hh, Bd.state]; rfl
  have N0 := Fr.nil n0
  show own_Go p e below (own_K s (Q_a4_of Z r_FALSE h0 n0) ({ frames := 0, cells := 0, slots := 0, locals := 0 } : Room).cells ({ frames := 0, cells := 0, slots := 0, locals := 0 } : Room).slots) (s₁.setTop (entryFrame m #[(.int (0 : Int32)), (.int (1 : Int32))] 3))
  rw [(by first | (simp [entryFrame, mkF, argsToLocals, Value.category]; done) | rfl : entryFrame m #[(.int (0 : Int32)), (.int (1 : Int32))] 3 = mkF m 0 #[.val (.int (0 : Int32)), .val (.int (1 : Int32)), .unset] [])]
  show own_Go p e below _ (s₁.setTop (mkF m 0 #[.val (.int (0 : Int32)), .val (.int (1 : Int32)), .unset] []))
  refine own_go (fun _ hr => XS.iloadN X0.here hx rfl (hb hby own_d_prog_90_method_4_code_0) rfl (XS.ifYes X0.here hx rfl (pc0 := 1) (pc' := 15) rfl (hb hby own_d_prog_90_method_4_code_1) rfl ((if0 _ _).trans (teq (by decide)).1) (by decide) (by decide) (XS.iloadN X0.here hx rfl (hb hby own_d_prog_90_method_4_code_15) rfl (XS.ifYes X0.here hx rfl (pc0 := 16) (pc' := 26) rfl (hb hby own_d_prog_90_method_4_code_16) rfl ((if0 _ _).trans (teq (by decide)).1) (by decide) (by decide) (XS.iloadN X0.here hx rfl (hb hby own_d_prog_90_method_4_code_26) rfl (XS.ifNo X0.here hx rfl (hb hby own_d_prog_90_method_4_code_27) rfl ((if0 _ _).trans (feq (by decide)).1) hr)))))) ?_
  show own_Go p e below _ (s₁.setTop (mkF m 30 #[.val (.int (0 : Int32)), .val (.int (1 : Int32)), .unset] []))
  obtain ⟨T1, X1, e1, st1⟩ := getS2 X0 hx hZ hown (host := "") (Or.inl (hw _ (own_m 4 rfl))) Via.refl e0 S_FALSE (g := (mkF m 30 #[.val (.int (0 : Int32)), .val (.int (1 : Int32)), .unset] [])) rfl (hb hby own_d_prog_90_method_4_code_30)
  refine own_go st1 ?_
  show own_Go p e below _ (T1.setTop (mkF m 33 #[.val (.int (0 : Int32)), .val (.int (1 : Int32)), .unset] [(.ref r_FALSE)]))
  refine own_go (fun _ hr => XS.astoreN X1.here hx rfl (hb hby own_d_prog_90_method_4_code_33) rfl rfl (l' := #[.val (.int (0 : Int32)), .val (.int (1 : Int32)), .val (.ref r_FALSE)]) rfl (XS.goto X1.here hx rfl (pc0 := 34) (pc' := 41) rfl (hb hby own_d_prog_90_method_4_code_34) (by decide) (by decide) (XS.aloadN X1.here hx rfl (hb hby own_d_prog_90_method_4_code_41) rfl rfl hr))) ?_
  show own_Go p e below _ (T1.setTop (mkF m 42 #[.val (.int (0 : Int32)), .val (.int (1 : Int32)), .val (.ref r_FALSE)] [(.ref r_FALSE)]))
  exact own_retR X1 hx hlk Bd.returns rfl rfl (hb hby own_d_prog_90_method_4_code_42) (by decide) (by decide) ⟨rfl, N0, e1⟩
def Q_a5_isKnownTrue (Z : State) (h0 : Heap) (n0 : Nat) (v : Option Value) (h : Heap) (L : List Loc) : Prop := v = some (.int (0 : Int32)) ∧ Fr n0 L ∧ h = h0
set_option maxRecDepth 65536 in
set_option maxHeartbeats 40000000 in
theorem rm_a5_isKnownTrue (l : Launch) (Z : State) (a0 : Array Value) (hw : ∀ d ∈ tables_1, d.before a0 Z = true) (ws : List Jvm.Cond) (r_FALSE : Addr) (h0 : Heap) (n0 : Nat) (Z0 : n0 ≤ h0.size) (F_FALSE_knownTrue : Fld Z h0 r_FALSE "com/example/candid_facts/candidfacts/Truth" "knownTrue" "Z" (.int (0 : Int32))) :
    MetFree l (⟨"com/example/candid_facts/candidfacts/Truth", "isKnownTrue", "()Z"⟩ : MethodName) (head1 (Jvm.Cond.code (⟨"com/example/candid_facts/candidfacts/Truth", "isKnownTrue", "()Z"⟩ : MethodName) prog_90_method_5_code 1 (some .boolean) :: ws) ({ frames := 0, cells := 0, slots := 0, locals := 0 } : Room)) (fun a U => a = #[(.ref r_FALSE)] ∧ Z.Warmed39 U.vm ∧ U.heap = h0) (fun _ _ _ _ _ => True) (fun _ U o U' => ∃ v L, o = .returned v ∧ Q_a5_isKnownTrue Z h0 n0 v U'.heap L ∧ FrameEnd U o U' L ({ frames := 0, cells := 0, slots := 0, locals := 0 } : Room).cells ({ frames := 0, cells := 0, slots := 0, locals := 0 } : Room).slots) := by
  refine MetFree.of_bodySF (plainFor_of_name own_pn_com_example_candid_facts_candidfacts_Truth) hisR ?_
  intro p e s m args below meth c s₁ Bd hml0 hP hK
  obtain ⟨rfl, hZ, hh⟩ := hP
  have hx := Bd.exec
  have hby := Bd.bytes
  have hlk : meth.locks = false := BodyLoose.notSynchronized Bd
  have hml : c.maxLocals = 1 := hml0
  have hown : s.vm.findClass "com/example/candid_facts/candidfacts/Truth" = some m.cls := findClass_of_methodNamed Bd.named
  have hnm := (name_of_methodNamed Bd.named Bd.method).1
  have X0 : Stand p l e ({ frames := 0, cells := 0, slots := 0, locals := 0 } : Room) s m #[(.ref r_FALSE)] below meth c s₁ [] 0 0 := Stand.of_body Bd
  have e0 : s₁.heap = h0 := by rw [← hh, Bd.state]; rfl
  have N0 := Fr.nil n0
  show own_Go p e below (own_K s (Q_a5_isKnownTrue Z h0 n0) ({ frames := 0, cells := 0, slots := 0, locals := 0 } : Room).cells ({ frames := 0, cells := 0, slots := 0, locals := 0 } : Room).slots) (s₁.setTop (entryFrame m #[(.ref r_FALSE)] 1))
  rw [(by first | (simp [entryFrame, mkF, argsToLocals, Value.category]; done) | rfl : entryFrame m #[(.ref r_FALSE)] 1 = mkF m 0 #[.val (.ref r_FALSE)] [])]
  show own_Go p e below _ (s₁.setTop (mkF m 0 #[.val (.ref r_FALSE)] []))
  refine own_go (fun _ hr => XS.aloadN X0.here hx rfl (hb hby own_d_prog_90_method_5_code_0) rfl rfl hr) ?_
  show own_Go p e below _ (s₁.setTop (mkF m 1 #[.val (.ref r_FALSE)] [(.ref r_FALSE)]))
  obtain ⟨T1, X1, e1, st1⟩ := getF X0 hx hZ hown (host := "") (Or.inl (hw _ (own_m 11 rfl))) Via.refl e0 F_FALSE_knownTrue (g := (mkF m 1 #[.val (.ref r_FALSE)] [(.ref r_FALSE)])) rfl rfl (hb hby own_d_prog_90_method_5_code_1)
  refine own_go st1 ?_
  show own_Go p e below _ (T1.setTop (mkF m 4 #[.val (.ref r_FALSE)] [(.int (0 : Int32))]))
  exact own_retN X1 hx hlk Bd.returns (t := .boolean) (by simp) (hb hby own_d_prog_90_method_5_code_4) (by decide) (by decide) ⟨rfl, N0, e1⟩
def Q_a6_isKnownFalse (Z : State) (h0 : Heap) (n0 : Nat) (v : Option Value) (h : Heap) (L : List Loc) : Prop := v = some (.int (1 : Int32)) ∧ Fr n0 L ∧ h = h0
set_option maxRecDepth 65536 in
set_option maxHeartbeats 40000000 in
theorem rm_a6_isKnownFalse (l : Launch) (Z : State) (a0 : Array Value) (hw : ∀ d ∈ tables_1, d.before a0 Z = true) (ws : List Jvm.Cond) (r_FALSE : Addr) (h0 : Heap) (n0 : Nat) (Z0 : n0 ≤ h0.size) (F_FALSE_knownFalse : Fld Z h0 r_FALSE "com/example/candid_facts/candidfacts/Truth" "knownFalse" "Z" (.int (1 : Int32))) :
    MetFree l (⟨"com/example/candid_facts/candidfacts/Truth", "isKnownFalse", "()Z"⟩ : MethodName) (head1 (Jvm.Cond.code (⟨"com/example/candid_facts/candidfacts/Truth", "isKnownFalse", "()Z"⟩ : MethodName) prog_90_method_6_code 1 (some .boolean) :: ws) ({ frames := 0, cells := 0, slots := 0, locals := 0 } : Room)) (fun a U => a = #[(.ref r_FALSE)] ∧ Z.Warmed39 U.vm ∧ U.heap = h0) (fun _ _ _ _ _ => True) (fun _ U o U' => ∃ v L, o = .returned v ∧ Q_a6_isKnownFalse Z h0 n0 v U'.heap L ∧ FrameEnd U o U' L ({ frames := 0, cells := 0, slots := 0, locals := 0 } : Room).cells ({ frames := 0, cells := 0, slots := 0, locals := 0 } : Room).slots) := by
  refine MetFree.of_bodySF (plainFor_of_name own_pn_com_example_candid_facts_candidfacts_Truth) hisR ?_
  intro p e s m args below meth c s₁ Bd hml0 hP hK
  obtain ⟨rfl, hZ, hh⟩ := hP
  have hx := Bd.exec
  have hby := Bd.bytes
  have hlk : meth.locks = false := BodyLoose.notSynchronized Bd
  have hml : c.maxLocals = 1 := hml0
  have hown : s.vm.findClass "com/example/candid_facts/candidfacts/Truth" = some m.cls := findClass_of_methodNamed Bd.named
  have hnm := (name_of_methodNamed Bd.named Bd.method).1
  have X0 : Stand p l e ({ frames := 0, cells := 0, slots := 0, locals := 0 } : Room) s m #[(.ref r_FALSE)] below meth c s₁ [] 0 0 := Stand.of_body Bd
  have e0 : s₁.heap = h0 := by rw [← hh, Bd.state]; rfl
  have N0 := Fr.nil n0
  show own_Go p e below (own_K s (Q_a6_isKnownFalse Z h0 n0) ({ frames := 0, cells := 0, slots := 0, locals := 0 } : Room).cells ({ frames := 0, cells := 0, slots := 0, locals := 0 } : Room).slots) (s₁.setTop (entryFrame m #[(.ref r_FALSE)] 1))
  rw [(by first | (simp [entryFrame, mkF, argsToLocals, Value.category]; done) | rfl : entryFrame m #[(.ref r_FALSE)] 1 = mkF m 0 #[.val (.ref r_FALSE)] [])]
  show own_Go p e below _ (s₁.setTop (mkF m 0 #[.val (.ref r_FALSE)] []))
  refine own_go (fun _ hr => XS.aloadN X0.here hx rfl (hb hby own_d_prog_90_method_6_code_0) rfl rfl hr) ?_
  show own_Go p e below _ (s₁.setTop (mkF m 1 #[.val (.ref r_FALSE)] [(.ref r_FALSE)]))
  obtain ⟨T1, X1, e1, st1⟩ := getF X0 hx hZ hown (host := "") (Or.inl (hw _ (own_m 18 rfl))) Via.refl e0 F_FALSE_knownFalse (g := (mkF m 1 #[.val (.ref r_FALSE)] [(.ref r_FALSE)])) rfl rfl (hb hby own_d_prog_90_method_6_code_1)
  refine own_go st1 ?_
  show own_Go p e below _ (T1.setTop (mkF m 4 #[.val (.ref r_FALSE)] [(.int (1 : Int32))]))
  exact own_retN X1 hx hlk Bd.returns (t := .boolean) (by simp) (hb hby own_d_prog_90_method_6_code_4) (by decide) (by decide) ⟨rfl, N0, e1⟩
theorem own_d_prog_90_method_4_code_4 : decode prog_90_method_4_code 4 = .ok (.iload_n 1, 1) := by decide +kernel
theorem own_d_prog_90_method_4_code_5 : decode prog_90_method_4_code 5 = .ok (.ifCond .eq 10, 3) := by decide +kernel
theorem own_d_prog_90_method_4_code_19 : decode prog_90_method_4_code 19 = .ok (.getstatic 3, 3) := by decide +kernel
theorem own_d_prog_90_method_4_code_22 : decode prog_90_method_4_code 22 = .ok (.astore_n 2, 1) := by decide +kernel
theorem own_d_prog_90_method_4_code_23 : decode prog_90_method_4_code 23 = .ok (.goto 18, 3) := by decide +kernel
def Q_a7_of (Z : State) (r_TRUE : Addr) (h0 : Heap) (n0 : Nat) (v : Option Value) (h : Heap) (L : List Loc) : Prop := v = some (.ref r_TRUE) ∧ Fr n0 L ∧ h = h0
set_option maxRecDepth 65536 in
set_option maxHeartbeats 40000000 in
theorem rm_a7_of (l : Launch) (Z : State) (a0 : Array Value) (hw : ∀ d ∈ tables_1, d.before a0 Z = true) (ws : List Jvm.Cond) (r_TRUE : Addr) (h0 : Heap) (n0 : Nat) (Z0 : n0 ≤ h0.size) (S_TRUE : Sta Z h0 "com/example/candid_facts/candidfacts/Truth" "TRUE" "Lcom/example/candid_facts/candidfacts/Truth;" (.ref r_TRUE)) :
    MetFree l (⟨"com/example/candid_facts/candidfacts/Truth", "of", "(ZZ)Lcom/example/candid_facts/candidfacts/Truth;"⟩ : MethodName) (head1 (Jvm.Cond.code (⟨"com/example/candid_facts/candidfacts/Truth", "of", "(ZZ)Lcom/example/candid_facts/candidfacts/Truth;"⟩ : MethodName) prog_90_method_4_code 3 (some (.object "com/example/candid_facts/candidfacts/Truth")) :: ws) ({ frames := 0, cells := 0, slots := 0, locals := 0 } : Room)) (fun a U => a = #[(.int (1 : Int32)), (.int (0 : Int32))] ∧ Z.Warmed39 U.vm ∧ U.heap = h0) (fun _ _ _ _ _ => True) (fun _ U o U' => ∃ v L, o = .returned v ∧ Q_a7_of Z r_TRUE h0 n0 v U'.heap L ∧ FrameEnd U o U' L ({ frames := 0, cells := 0, slots := 0, locals := 0 } : Room).cells ({ frames := 0, cells := 0, slots := 0, locals := 0 } : Room).slots) := by
  refine MetFree.of_bodySF (plainFor_of_name own_pn_com_example_candid_facts_candidfacts_Truth) hisR ?_
  intro p e s m args below meth c s₁ Bd hml0 hP hK
  obtain ⟨rfl, hZ, hh⟩ := hP
  have hx := Bd.exec
  have hby := Bd.bytes
  have hlk : meth.locks = false := BodyLoose.notSynchronized Bd
  have hml : c.maxLocals = 3 := hml0
  have hown : s.vm.findClass "com/example/candid_facts/candidfacts/Truth" = some m.cls := findClass_of_methodNamed Bd.named
  have hnm := (name_of_methodNamed Bd.named Bd.method).1
  have X0 : Stand p l e ({ frames := 0, cells := 0, slots := 0, locals := 0 } : Room) s m #[(.int (1 : Int32)), (.int (0 : Int32))] below meth c s₁ [] 0 0 := Stand.of_body Bd
  have e0 : s₁.heap = h0 := by rw [← hh, Bd.state]; rfl
  have N0 := Fr.nil n0
  show own_Go p e below (own_K s (Q_a7_of Z r_TRUE h0 n0) ({ frames := 0, cells := 0, slots := 0, locals := 0 } : Room).cells ({ frames := 0, cells := 0, slots := 0, locals := 0 } : Room).slots) (s₁.setTop (entryFrame m #[(.int (1 : Int32)), (.int (0 : Int32))] 3))
  rw [(by first | (simp [entryFrame, mkF, argsToLocals, Value.category]; done) | rfl : entryFrame m #[(.int (1 : Int32)), (.int (0 : Int32))] 3 = mkF m 0 #[.val (.int (1 : Int32)), .val (.int (0 : Int32)), .unset] [])]
  show own_Go p e below _ (s₁.setTop (mkF m 0 #[.val (.int (1 : Int32)), .val (.int (0 : Int32)), .unset] []))
  refine own_go (fun _ hr => XS.iloadN X0.here hx rfl (hb hby own_d_prog_90_method_4_code_0) rfl (XS.ifNo X0.here hx rfl (hb hby own_d_prog_90_method_4_code_1) rfl ((if0 _ _).trans (feq (by decide)).1) (XS.iloadN X0.here hx rfl (hb hby own_d_prog_90_method_4_code_4) rfl (XS.ifYes X0.here hx rfl (pc0 := 5) (pc' := 15) rfl (hb hby own_d_prog_90_method_4_code_5) rfl ((if0 _ _).trans (teq (by decide)).1) (by decide) (by decide) (XS.iloadN X0.here hx rfl (hb hby own_d_prog_90_method_4_code_15) rfl (XS.ifNo X0.here hx rfl (hb hby own_d_prog_90_method_4_code_16) rfl ((if0 _ _).trans (feq (by decide)).1) hr)))))) ?_
  show own_Go p e below _ (s₁.setTop (mkF m 19 #[.val (.int (1 : Int32)), .val (.int (0 : Int32)), .unset] []))
  obtain ⟨T1, X1, e1, st1⟩ := getS2 X0 hx hZ hown (host := "") (Or.inl (hw _ (own_m 24 rfl))) Via.refl e0 S_TRUE (g := (mkF m 19 #[.val (.int (1 : Int32)), .val (.int (0 : Int32)), .unset] [])) rfl (hb hby own_d_prog_90_method_4_code_19)
  refine own_go st1 ?_
  show own_Go p e below _ (T1.setTop (mkF m 22 #[.val (.int (1 : Int32)), .val (.int (0 : Int32)), .unset] [(.ref r_TRUE)]))
  refine own_go (fun _ hr => XS.astoreN X1.here hx rfl (hb hby own_d_prog_90_method_4_code_22) rfl rfl (l' := #[.val (.int (1 : Int32)), .val (.int (0 : Int32)), .val (.ref r_TRUE)]) rfl (XS.goto X1.here hx rfl (pc0 := 23) (pc' := 41) rfl (hb hby own_d_prog_90_method_4_code_23) (by decide) (by decide) (XS.aloadN X1.here hx rfl (hb hby own_d_prog_90_method_4_code_41) rfl rfl hr))) ?_
  show own_Go p e below _ (T1.setTop (mkF m 42 #[.val (.int (1 : Int32)), .val (.int (0 : Int32)), .val (.ref r_TRUE)] [(.ref r_TRUE)]))
  exact own_retR X1 hx hlk Bd.returns rfl rfl (hb hby own_d_prog_90_method_4_code_42) (by decide) (by decide) ⟨rfl, N0, e1⟩
def Q_a8_isKnownTrue (Z : State) (h0 : Heap) (n0 : Nat) (v : Option Value) (h : Heap) (L : List Loc) : Prop := v = some (.int (1 : Int32)) ∧ Fr n0 L ∧ h = h0
set_option maxRecDepth 65536 in
set_option maxHeartbeats 40000000 in
theorem rm_a8_isKnownTrue (l : Launch) (Z : State) (a0 : Array Value) (hw : ∀ d ∈ tables_1, d.before a0 Z = true) (ws : List Jvm.Cond) (r_TRUE : Addr) (h0 : Heap) (n0 : Nat) (Z0 : n0 ≤ h0.size) (F_TRUE_knownTrue : Fld Z h0 r_TRUE "com/example/candid_facts/candidfacts/Truth" "knownTrue" "Z" (.int (1 : Int32))) :
    MetFree l (⟨"com/example/candid_facts/candidfacts/Truth", "isKnownTrue", "()Z"⟩ : MethodName) (head1 (Jvm.Cond.code (⟨"com/example/candid_facts/candidfacts/Truth", "isKnownTrue", "()Z"⟩ : MethodName) prog_90_method_5_code 1 (some .boolean) :: ws) ({ frames := 0, cells := 0, slots := 0, locals := 0 } : Room)) (fun a U => a = #[(.ref r_TRUE)] ∧ Z.Warmed39 U.vm ∧ U.heap = h0) (fun _ _ _ _ _ => True) (fun _ U o U' => ∃ v L, o = .returned v ∧ Q_a8_isKnownTrue Z h0 n0 v U'.heap L ∧ FrameEnd U o U' L ({ frames := 0, cells := 0, slots := 0, locals := 0 } : Room).cells ({ frames := 0, cells := 0, slots := 0, locals := 0 } : Room).slots) := by
  refine MetFree.of_bodySF (plainFor_of_name own_pn_com_example_candid_facts_candidfacts_Truth) hisR ?_
  intro p e s m args below meth c s₁ Bd hml0 hP hK
  obtain ⟨rfl, hZ, hh⟩ := hP
  have hx := Bd.exec
  have hby := Bd.bytes
  have hlk : meth.locks = false := BodyLoose.notSynchronized Bd
  have hml : c.maxLocals = 1 := hml0
  have hown : s.vm.findClass "com/example/candid_facts/candidfacts/Truth" = some m.cls := findClass_of_methodNamed Bd.named
  have hnm := (name_of_methodNamed Bd.named Bd.method).1
  have X0 : Stand p l e ({ frames := 0, cells := 0, slots := 0, locals := 0 } : Room) s m #[(.ref r_TRUE)] below meth c s₁ [] 0 0 := Stand.of_body Bd
  have e0 : s₁.heap = h0 := by rw [← hh, Bd.state]; rfl
  have N0 := Fr.nil n0
  show own_Go p e below (own_K s (Q_a8_isKnownTrue Z h0 n0) ({ frames := 0, cells := 0, slots := 0, locals := 0 } : Room).cells ({ frames := 0, cells := 0, slots := 0, locals := 0 } : Room).slots) (s₁.setTop (entryFrame m #[(.ref r_TRUE)] 1))
  rw [(by first | (simp [entryFrame, mkF, argsToLocals, Value.category]; done) | rfl : entryFrame m #[(.ref r_TRUE)] 1 = mkF m 0 #[.val (.ref r_TRUE)] [])]
  show own_Go p e below _ (s₁.setTop (mkF m 0 #[.val (.ref r_TRUE)] []))
  refine own_go (fun _ hr => XS.aloadN X0.here hx rfl (hb hby own_d_prog_90_method_5_code_0) rfl rfl hr) ?_
  show own_Go p e below _ (s₁.setTop (mkF m 1 #[.val (.ref r_TRUE)] [(.ref r_TRUE)]))
  obtain ⟨T1, X1, e1, st1⟩ := getF X0 hx hZ hown (host := "") (Or.inl (hw _ (own_m 11 rfl))) Via.refl e0 F_TRUE_knownTrue (g := (mkF m 1 #[.val (.ref r_TRUE)] [(.ref r_TRUE)])) rfl rfl (hb hby own_d_prog_90_method_5_code_1)
  refine own_go st1 ?_
  show own_Go p e below _ (T1.setTop (mkF m 4 #[.val (.ref r_TRUE)] [(.int (1 : Int32))]))
  exact own_retN X1 hx hlk Bd.returns (t := .boolean) (by simp) (hb hby own_d_prog_90_method_5_code_4) (by decide) (by decide) ⟨rfl, N0, e1⟩
def Q_a9_isKnownFalse (Z : State) (h0 : Heap) (n0 : Nat) (v : Option Value) (h : Heap) (L : List Loc) : Prop := v = some (.int (0 : Int32)) ∧ Fr n0 L ∧ h = h0
set_option maxRecDepth 65536 in
set_option maxHeartbeats 40000000 in
theorem rm_a9_isKnownFalse (l : Launch) (Z : State) (a0 : Array Value) (hw : ∀ d ∈ tables_1, d.before a0 Z = true) (ws : List Jvm.Cond) (r_TRUE : Addr) (h0 : Heap) (n0 : Nat) (Z0 : n0 ≤ h0.size) (F_TRUE_knownFalse : Fld Z h0 r_TRUE "com/example/candid_facts/candidfacts/Truth" "knownFalse" "Z" (.int (0 : Int32))) :
    MetFree l (⟨"com/example/candid_facts/candidfacts/Truth", "isKnownFalse", "()Z"⟩ : MethodName) (head1 (Jvm.Cond.code (⟨"com/example/candid_facts/candidfacts/Truth", "isKnownFalse", "()Z"⟩ : MethodName) prog_90_method_6_code 1 (some .boolean) :: ws) ({ frames := 0, cells := 0, slots := 0, locals := 0 } : Room)) (fun a U => a = #[(.ref r_TRUE)] ∧ Z.Warmed39 U.vm ∧ U.heap = h0) (fun _ _ _ _ _ => True) (fun _ U o U' => ∃ v L, o = .returned v ∧ Q_a9_isKnownFalse Z h0 n0 v U'.heap L ∧ FrameEnd U o U' L ({ frames := 0, cells := 0, slots := 0, locals := 0 } : Room).cells ({ frames := 0, cells := 0, slots := 0, locals := 0 } : Room).slots) := by
  refine MetFree.of_bodySF (plainFor_of_name own_pn_com_example_candid_facts_candidfacts_Truth) hisR ?_
  intro p e s m args below meth c s₁ Bd hml0 hP hK
  obtain ⟨rfl, hZ, hh⟩ := hP
  have hx := Bd.exec
  have hby := Bd.bytes
  have hlk : meth.locks = false := BodyLoose.notSynchronized Bd
  have hml : c.maxLocals = 1 := hml0
  have hown : s.vm.findClass "com/example/candid_facts/candidfacts/Truth" = some m.cls := findClass_of_methodNamed Bd.named
  have hnm := (name_of_methodNamed Bd.named Bd.method).1
  have X0 : Stand p l e ({ frames := 0, cells := 0, slots := 0, locals := 0 } : Room) s m #[(.ref r_TRUE)] below meth c s₁ [] 0 0 := Stand.of_body Bd
  have e0 : s₁.heap = h0 := by rw [← hh, Bd.state]; rfl
  have N0 := Fr.nil n0
  show own_Go p e below (own_K s (Q_a9_isKnownFalse Z h0 n0) ({ frames := 0, cells := 0, slots := 0, locals := 0 } : Room).cells ({ frames := 0, cells := 0, slots := 0, locals := 0 } : Room).slots) (s₁.setTop (entryFrame m #[(.ref r_TRUE)] 1))
  rw [(by first | (simp [entryFrame, mkF, argsToLocals, Value.category]; done) | rfl : entryFrame m #[(.ref r_TRUE)] 1 = mkF m 0 #[.val (.ref r_TRUE)] [])]
  show own_Go p e below _ (s₁.setTop (mkF m 0 #[.val (.ref r_TRUE)] []))
  refine own_go (fun _ hr => XS.aloadN X0.here hx rfl (hb hby own_d_prog_90_method_6_code_0) rfl rfl hr) ?_
  show own_Go p e below _ (s₁.setTop (mkF m 1 #[.val (.ref r_TRUE)] [(.ref r_TRUE)]))
  obtain ⟨T1, X1, e1, st1⟩ := getF X0 hx hZ hown (host := "") (Or.inl (hw _ (own_m 18 rfl))) Via.refl e0 F_TRUE_knownFalse (g := (mkF m 1 #[.val (.ref r_TRUE)] [(.ref r_TRUE)])) rfl rfl (hb hby own_d_prog_90_method_6_code_1)
  refine own_go st1 ?_
  show own_Go p e below _ (T1.setTop (mkF m 4 #[.val (.ref r_TRUE)] [(.int (0 : Int32))]))
  exact own_retN X1 hx hlk Bd.returns (t := .boolean) (by simp) (hb hby own_d_prog_90_method_6_code_4) (by decide) (by decide) ⟨rfl, N0, e1⟩
theorem own_d_prog_90_method_4_code_8 : decode prog_90_method_4_code 8 = .ok (.getstatic 13, 3) := by decide +kernel
theorem own_d_prog_90_method_4_code_11 : decode prog_90_method_4_code 11 = .ok (.astore_n 2, 1) := by decide +kernel
theorem own_d_prog_90_method_4_code_12 : decode prog_90_method_4_code 12 = .ok (.goto 29, 3) := by decide +kernel
def Q_a10_of (Z : State) (r_INCONSISTENT : Addr) (h0 : Heap) (n0 : Nat) (v : Option Value) (h : Heap) (L : List Loc) : Prop := v = some (.ref r_INCONSISTENT) ∧ Fr n0 L ∧ h = h0
set_option maxRecDepth 65536 in
set_option maxHeartbeats 40000000 in
theorem rm_a10_of (l : Launch) (Z : State) (a0 : Array Value) (hw : ∀ d ∈ tables_1, d.before a0 Z = true) (ws : List Jvm.Cond) (r_INCONSISTENT : Addr) (h0 : Heap) (n0 : Nat) (Z0 : n0 ≤ h0.size) (S_INCONSISTENT : Sta Z h0 "com/example/candid_facts/candidfacts/Truth" "INCONSISTENT" "Lcom/example/candid_facts/candidfacts/Truth;" (.ref r_INCONSISTENT)) :
    MetFree l (⟨"com/example/candid_facts/candidfacts/Truth", "of", "(ZZ)Lcom/example/candid_facts/candidfacts/Truth;"⟩ : MethodName) (head1 (Jvm.Cond.code (⟨"com/example/candid_facts/candidfacts/Truth", "of", "(ZZ)Lcom/example/candid_facts/candidfacts/Truth;"⟩ : MethodName) prog_90_method_4_code 3 (some (.object "com/example/candid_facts/candidfacts/Truth")) :: ws) ({ frames := 0, cells := 0, slots := 0, locals := 0 } : Room)) (fun a U => a = #[(.int (1 : Int32)), (.int (1 : Int32))] ∧ Z.Warmed39 U.vm ∧ U.heap = h0) (fun _ _ _ _ _ => True) (fun _ U o U' => ∃ v L, o = .returned v ∧ Q_a10_of Z r_INCONSISTENT h0 n0 v U'.heap L ∧ FrameEnd U o U' L ({ frames := 0, cells := 0, slots := 0, locals := 0 } : Room).cells ({ frames := 0, cells := 0, slots := 0, locals := 0 } : Room).slots) := by
  refine MetFree.of_bodySF (plainFor_of_name own_pn_com_example_candid_facts_candidfacts_Truth) hisR ?_
  intro p e s m args below meth c s₁ Bd hml0 hP hK
  obtain ⟨rfl, hZ, hh⟩ := hP
  have hx := Bd.exec
  have hby := Bd.bytes
  have hlk : meth.locks = false := BodyLoose.notSynchronized Bd
  have hml : c.maxLocals = 3 := hml0
  have hown : s.vm.findClass "com/example/candid_facts/candidfacts/Truth" = some m.cls := findClass_of_methodNamed Bd.named
  have hnm := (name_of_methodNamed Bd.named Bd.method).1
  have X0 : Stand p l e ({ frames := 0, cells := 0, slots := 0, locals := 0 } : Room) s m #[(.int (1 : Int32)), (.int (1 : Int32))] below meth c s₁ [] 0 0 := Stand.of_body Bd
  have e0 : s₁.heap = h0 := by rw [← hh, Bd.state]; rfl
  have N0 := Fr.nil n0
  show own_Go p e below (own_K s (Q_a10_of Z r_INCONSISTENT h0 n0) ({ frames := 0, cells := 0, slots := 0, locals := 0 } : Room).cells ({ frames := 0, cells := 0, slots := 0, locals := 0 } : Room).slots) (s₁.setTop (entryFrame m #[(.int (1 : Int32)), (.int (1 : Int32))] 3))
  rw [(by first | (simp [entryFrame, mkF, argsToLocals, Value.category]; done) | rfl : entryFrame m #[(.int (1 : Int32)), (.int (1 : Int32))] 3 = mkF m 0 #[.val (.int (1 : Int32)), .val (.int (1 : Int32)), .unset] [])]
  show own_Go p e below _ (s₁.setTop (mkF m 0 #[.val (.int (1 : Int32)), .val (.int (1 : Int32)), .unset] []))
  refine own_go (fun _ hr => XS.iloadN X0.here hx rfl (hb hby own_d_prog_90_method_4_code_0) rfl (XS.ifNo X0.here hx rfl (hb hby own_d_prog_90_method_4_code_1) rfl ((if0 _ _).trans (feq (by decide)).1) (XS.iloadN X0.here hx rfl (hb hby own_d_prog_90_method_4_code_4) rfl (XS.ifNo X0.here hx rfl (hb hby own_d_prog_90_method_4_code_5) rfl ((if0 _ _).trans (feq (by decide)).1) hr)))) ?_
  show own_Go p e below _ (s₁.setTop (mkF m 8 #[.val (.int (1 : Int32)), .val (.int (1 : Int32)), .unset] []))
  obtain ⟨T1, X1, e1, st1⟩ := getS2 X0 hx hZ hown (host := "") (Or.inl (hw _ (own_m 22 rfl))) Via.refl e0 S_INCONSISTENT (g := (mkF m 8 #[.val (.int (1 : Int32)), .val (.int (1 : Int32)), .unset] [])) rfl (hb hby own_d_prog_90_method_4_code_8)
  refine own_go st1 ?_
  show own_Go p e below _ (T1.setTop (mkF m 11 #[.val (.int (1 : Int32)), .val (.int (1 : Int32)), .unset] [(.ref r_INCONSISTENT)]))
  refine own_go (fun _ hr => XS.astoreN X1.here hx rfl (hb hby own_d_prog_90_method_4_code_11) rfl rfl (l' := #[.val (.int (1 : Int32)), .val (.int (1 : Int32)), .val (.ref r_INCONSISTENT)]) rfl (XS.goto X1.here hx rfl (pc0 := 12) (pc' := 41) rfl (hb hby own_d_prog_90_method_4_code_12) (by decide) (by decide) (XS.aloadN X1.here hx rfl (hb hby own_d_prog_90_method_4_code_41) rfl rfl hr))) ?_
  show own_Go p e below _ (T1.setTop (mkF m 42 #[.val (.int (1 : Int32)), .val (.int (1 : Int32)), .val (.ref r_INCONSISTENT)] [(.ref r_INCONSISTENT)]))
  exact own_retR X1 hx hlk Bd.returns rfl rfl (hb hby own_d_prog_90_method_4_code_42) (by decide) (by decide) ⟨rfl, N0, e1⟩
def Q_a11_isKnownTrue (Z : State) (h0 : Heap) (n0 : Nat) (v : Option Value) (h : Heap) (L : List Loc) : Prop := v = some (.int (1 : Int32)) ∧ Fr n0 L ∧ h = h0
set_option maxRecDepth 65536 in
set_option maxHeartbeats 40000000 in
theorem rm_a11_isKnownTrue (l : Launch) (Z : State) (a0 : Array Value) (hw : ∀ d ∈ tables_1, d.before a0 Z = true) (ws : List Jvm.Cond) (r_INCONSISTENT : Addr) (h0 : Heap) (n0 : Nat) (Z0 : n0 ≤ h0.size) (F_INCONSISTENT_knownTrue : Fld Z h0 r_INCONSISTENT "com/example/candid_facts/candidfacts/Truth" "knownTrue" "Z" (.int (1 : Int32))) :
    MetFree l (⟨"com/example/candid_facts/candidfacts/Truth", "isKnownTrue", "()Z"⟩ : MethodName) (head1 (Jvm.Cond.code (⟨"com/example/candid_facts/candidfacts/Truth", "isKnownTrue", "()Z"⟩ : MethodName) prog_90_method_5_code 1 (some .boolean) :: ws) ({ frames := 0, cells := 0, slots := 0, locals := 0 } : Room)) (fun a U => a = #[(.ref r_INCONSISTENT)] ∧ Z.Warmed39 U.vm ∧ U.heap = h0) (fun _ _ _ _ _ => True) (fun _ U o U' => ∃ v L, o = .returned v ∧ Q_a11_isKnownTrue Z h0 n0 v U'.heap L ∧ FrameEnd U o U' L ({ frames := 0, cells := 0, slots := 0, locals := 0 } : Room).cells ({ frames := 0, cells := 0, slots := 0, locals := 0 } : Room).slots) := by
  refine MetFree.of_bodySF (plainFor_of_name own_pn_com_example_candid_facts_candidfacts_Truth) hisR ?_
  intro p e s m args below meth c s₁ Bd hml0 hP hK
  obtain ⟨rfl, hZ, hh⟩ := hP
  have hx := Bd.exec
  have hby := Bd.bytes
  have hlk : meth.locks = false := BodyLoose.notSynchronized Bd
  have hml : c.maxLocals = 1 := hml0
  have hown : s.vm.findClass "com/example/candid_facts/candidfacts/Truth" = some m.cls := findClass_of_methodNamed Bd.named
  have hnm := (name_of_methodNamed Bd.named Bd.method).1
  have X0 : Stand p l e ({ frames := 0, cells := 0, slots := 0, locals := 0 } : Room) s m #[(.ref r_INCONSISTENT)] below meth c s₁ [] 0 0 := Stand.of_body Bd
  have e0 : s₁.heap = h0 := by rw [← hh, Bd.state]; rfl
  have N0 := Fr.nil n0
  show own_Go p e below (own_K s (Q_a11_isKnownTrue Z h0 n0) ({ frames := 0, cells := 0, slots := 0, locals := 0 } : Room).cells ({ frames := 0, cells := 0, slots := 0, locals := 0 } : Room).slots) (s₁.setTop (entryFrame m #[(.ref r_INCONSISTENT)] 1))
  rw [(by first | (simp [entryFrame, mkF, argsToLocals, Value.category]; done) | rfl : entryFrame m #[(.ref r_INCONSISTENT)] 1 = mkF m 0 #[.val (.ref r_INCONSISTENT)] [])]
  show own_Go p e below _ (s₁.setTop (mkF m 0 #[.val (.ref r_INCONSISTENT)] []))
  refine own_go (fun _ hr => XS.aloadN X0.here hx rfl (hb hby own_d_prog_90_method_5_code_0) rfl rfl hr) ?_
  show own_Go p e below _ (s₁.setTop (mkF m 1 #[.val (.ref r_INCONSISTENT)] [(.ref r_INCONSISTENT)]))
  obtain ⟨T1, X1, e1, st1⟩ := getF X0 hx hZ hown (host := "") (Or.inl (hw _ (own_m 11 rfl))) Via.refl e0 F_INCONSISTENT_knownTrue (g := (mkF m 1 #[.val (.ref r_INCONSISTENT)] [(.ref r_INCONSISTENT)])) rfl rfl (hb hby own_d_prog_90_method_5_code_1)
  refine own_go st1 ?_
  show own_Go p e below _ (T1.setTop (mkF m 4 #[.val (.ref r_INCONSISTENT)] [(.int (1 : Int32))]))
  exact own_retN X1 hx hlk Bd.returns (t := .boolean) (by simp) (hb hby own_d_prog_90_method_5_code_4) (by decide) (by decide) ⟨rfl, N0, e1⟩
def Q_a12_isKnownFalse (Z : State) (h0 : Heap) (n0 : Nat) (v : Option Value) (h : Heap) (L : List Loc) : Prop := v = some (.int (1 : Int32)) ∧ Fr n0 L ∧ h = h0
set_option maxRecDepth 65536 in
set_option maxHeartbeats 40000000 in
theorem rm_a12_isKnownFalse (l : Launch) (Z : State) (a0 : Array Value) (hw : ∀ d ∈ tables_1, d.before a0 Z = true) (ws : List Jvm.Cond) (r_INCONSISTENT : Addr) (h0 : Heap) (n0 : Nat) (Z0 : n0 ≤ h0.size) (F_INCONSISTENT_knownFalse : Fld Z h0 r_INCONSISTENT "com/example/candid_facts/candidfacts/Truth" "knownFalse" "Z" (.int (1 : Int32))) :
    MetFree l (⟨"com/example/candid_facts/candidfacts/Truth", "isKnownFalse", "()Z"⟩ : MethodName) (head1 (Jvm.Cond.code (⟨"com/example/candid_facts/candidfacts/Truth", "isKnownFalse", "()Z"⟩ : MethodName) prog_90_method_6_code 1 (some .boolean) :: ws) ({ frames := 0, cells := 0, slots := 0, locals := 0 } : Room)) (fun a U => a = #[(.ref r_INCONSISTENT)] ∧ Z.Warmed39 U.vm ∧ U.heap = h0) (fun _ _ _ _ _ => True) (fun _ U o U' => ∃ v L, o = .returned v ∧ Q_a12_isKnownFalse Z h0 n0 v U'.heap L ∧ FrameEnd U o U' L ({ frames := 0, cells := 0, slots := 0, locals := 0 } : Room).cells ({ frames := 0, cells := 0, slots := 0, locals := 0 } : Room).slots) := by
  refine MetFree.of_bodySF (plainFor_of_name own_pn_com_example_candid_facts_candidfacts_Truth) hisR ?_
  intro p e s m args below meth c s₁ Bd hml0 hP hK
  obtain ⟨rfl, hZ, hh⟩ := hP
  have hx := Bd.exec
  have hby := Bd.bytes
  have hlk : meth.locks = false := BodyLoose.notSynchronized Bd
  have hml : c.maxLocals = 1 := hml0
  have hown : s.vm.findClass "com/example/candid_facts/candidfacts/Truth" = some m.cls := findClass_of_methodNamed Bd.named
  have hnm := (name_of_methodNamed Bd.named Bd.method).1
  have X0 : Stand p l e ({ frames := 0, cells := 0, slots := 0, locals := 0 } : Room) s m #[(.ref r_INCONSISTENT)] below meth c s₁ [] 0 0 := Stand.of_body Bd
  have e0 : s₁.heap = h0 := by rw [← hh, Bd.state]; rfl
  have N0 := Fr.nil n0
  show own_Go p e below (own_K s (Q_a12_isKnownFalse Z h0 n0) ({ frames := 0, cells := 0, slots := 0, locals := 0 } : Room).cells ({ frames := 0, cells := 0, slots := 0, locals := 0 } : Room).slots) (s₁.setTop (entryFrame m #[(.ref r_INCONSISTENT)] 1))
  rw [(by first | (simp [entryFrame, mkF, argsToLocals, Value.category]; done) | rfl : entryFrame m #[(.ref r_INCONSISTENT)] 1 = mkF m 0 #[.val (.ref r_INCONSISTENT)] [])]
  show own_Go p e below _ (s₁.setTop (mkF m 0 #[.val (.ref r_INCONSISTENT)] []))
  refine own_go (fun _ hr => XS.aloadN X0.here hx rfl (hb hby own_d_prog_90_method_6_code_0) rfl rfl hr) ?_
  show own_Go p e below _ (s₁.setTop (mkF m 1 #[.val (.ref r_INCONSISTENT)] [(.ref r_INCONSISTENT)]))
  obtain ⟨T1, X1, e1, st1⟩ := getF X0 hx hZ hown (host := "") (Or.inl (hw _ (own_m 18 rfl))) Via.refl e0 F_INCONSISTENT_knownFalse (g := (mkF m 1 #[.val (.ref r_INCONSISTENT)] [(.ref r_INCONSISTENT)])) rfl rfl (hb hby own_d_prog_90_method_6_code_1)
  refine own_go st1 ?_
  show own_Go p e below _ (T1.setTop (mkF m 4 #[.val (.ref r_INCONSISTENT)] [(.int (1 : Int32))]))
  exact own_retN X1 hx hlk Bd.returns (t := .boolean) (by simp) (hb hby own_d_prog_90_method_6_code_4) (by decide) (by decide) ⟨rfl, N0, e1⟩
theorem own_pn_com_example_candid_facts_candidfacts_TruthOfPinLaw : plainName "com/example/candid_facts/candidfacts/TruthOfPinLaw" = true := by first | (simp [plainName, overriddenIn]; done) | decide +kernel
def Q_law (Z : State) (h0 : Heap) (n0 : Nat) (v : Option Value) (h : Heap) (L : List Loc) : Prop := v = some (.int 1) ∧ Fr n0 L
set_option maxRecDepth 65536 in
set_option maxHeartbeats 40000000 in
theorem rm_law (l : Launch) (Z : State) (a0 : Array Value) (hw : ∀ d ∈ tables_1, d.before a0 Z = true) (ws : List Jvm.Cond) (x0 : Int32) (x1 : Int32) (r_FALSE : Addr) (r_UNKNOWN : Addr) (r_INCONSISTENT : Addr) (r_TRUE : Addr) (h0 : Heap) (n0 : Nat) (Z0 : n0 ≤ h0.size) (S_FALSE : Sta Z h0 "com/example/candid_facts/candidfacts/Truth" "FALSE" "Lcom/example/candid_facts/candidfacts/Truth;" (.ref r_FALSE)) (E_FALSE : Exa Z h0 r_FALSE "com/example/candid_facts/candidfacts/Truth") (F_FALSE_knownTrue : Fld Z h0 r_FALSE "com/example/candid_facts/candidfacts/Truth" "knownTrue" "Z" (.int (0 : Int32))) (F_FALSE_knownFalse : Fld Z h0 r_FALSE "com/example/candid_facts/candidfacts/Truth" "knownFalse" "Z" (.int (1 : Int32))) (S_UNKNOWN : Sta Z h0 "com/example/candid_facts/candidfacts/Truth" "UNKNOWN" "Lcom/example/candid_facts/candidfacts/Truth;" (.ref r_UNKNOWN)) (E_UNKNOWN : Exa Z h0 r_UNKNOWN "com/example/candid_facts/candidfacts/Truth") (F_UNKNOWN_knownTrue : Fld Z h0 r_UNKNOWN "com/example/candid_facts/candidfacts/Truth" "knownTrue" "Z" (.int (0 : Int32))) (F_UNKNOWN_knownFalse : Fld Z h0 r_UNKNOWN "com/example/candid_facts/candidfacts/Truth" "knownFalse" "Z" (.int (0 : Int32))) (S_INCONSISTENT : Sta Z h0 "com/example/candid_facts/candidfacts/Truth" "INCONSISTENT" "Lcom/example/candid_facts/candidfacts/Truth;" (.ref r_INCONSISTENT)) (E_INCONSISTENT : Exa Z h0 r_INCONSISTENT "com/example/candid_facts/candidfacts/Truth") (F_INCONSISTENT_knownTrue : Fld Z h0 r_INCONSISTENT "com/example/candid_facts/candidfacts/Truth" "knownTrue" "Z" (.int (1 : Int32))) (F_INCONSISTENT_knownFalse : Fld Z h0 r_INCONSISTENT "com/example/candid_facts/candidfacts/Truth" "knownFalse" "Z" (.int (1 : Int32))) (S_TRUE : Sta Z h0 "com/example/candid_facts/candidfacts/Truth" "TRUE" "Lcom/example/candid_facts/candidfacts/Truth;" (.ref r_TRUE)) (E_TRUE : Exa Z h0 r_TRUE "com/example/candid_facts/candidfacts/Truth") (F_TRUE_knownTrue : Fld Z h0 r_TRUE "com/example/candid_facts/candidfacts/Truth" "knownTrue" "Z" (.int (1 : Int32))) (F_TRUE_knownFalse : Fld Z h0 r_TRUE "com/example/candid_facts/candidfacts/Truth" "knownFalse" "Z" (.int (0 : Int32))) :
    MetFree l x (head1 (Jvm.Cond.code x code maxLocals ret :: ws) room_1) (fun a U => a = #[(.int x0), (.int x1)] ∧ Z.Warmed39 U.vm ∧ U.heap = h0) (fun _ _ _ _ _ => True) (fun _ U o U' => ∃ v L, o = .returned v ∧ Q_law Z h0 n0 v U'.heap L ∧ FrameEnd U o U' L room_1.cells room_1.slots) := by
  refine MetFree.of_bodySF (plainFor_of_name own_pn_com_example_candid_facts_candidfacts_TruthOfPinLaw) hisR ?_
  intro p e s m args below meth c s₁ Bd hml0 hP hK
  obtain ⟨rfl, hZ, hh⟩ := hP
  have hx := Bd.exec
  have hby := Bd.bytes
  have hlk : meth.locks = false := BodyLoose.notSynchronized Bd
  have hml : c.maxLocals = 5 := hml0
  have hown : s.vm.findClass "com/example/candid_facts/candidfacts/TruthOfPinLaw" = some m.cls := findClass_of_methodNamed Bd.named
  have hnm := (name_of_methodNamed Bd.named Bd.method).1
  have X0 : Stand p l e room_1 s m #[(.int x0), (.int x1)] below meth c s₁ [] 0 0 := Stand.of_body Bd
  have e0 : s₁.heap = h0 := by rw [← hh, Bd.state]; rfl
  have N0 := Fr.nil n0
  show own_Go p e below (own_K s (Q_law Z h0 n0) room_1.cells room_1.slots) (s₁.setTop (entryFrame m #[(.int x0), (.int x1)] maxLocals))
  rw [(by first | (simp [entryFrame, mkF, argsToLocals, Value.category, maxLocals]; done) | rfl : entryFrame m #[(.int x0), (.int x1)] maxLocals = mkF m 0 #[.val (.int x0), .val (.int x1), .unset, .unset, .unset] [])]
  show own_Go p e below _ (s₁.setTop (mkF m 0 #[.val (.int x0), .val (.int x1), .unset, .unset, .unset] []))
  refine own_go (fun _ hr => XS.iloadN X0.here hx rfl (hb hby at_0) rfl (XS.iconst X0.here hx rfl (hb hby at_1) (XS.iand X0.here hx rfl (hb hby at_2) rfl hr))) ?_
  show own_Go p e below _ (s₁.setTop (mkF m 3 #[.val (.int x0), .val (.int x1), .unset, .unset, .unset] [(.int (x0 &&& (1 : Int32)))]))
  by_cases c1 : (x0 &&& (1 : Int32)) = (0 : Int32)
  · refine own_go (fun _ hr => XS.ifYes X0.here hx rfl (pc0 := 3) (pc' := 10) rfl (hb hby at_3) rfl ((if0 _ _).trans (teq c1).1) (by decide) (by decide) hr) ?_
    show own_Go p e below _ (s₁.setTop (mkF m 10 #[.val (.int x0), .val (.int x1), .unset, .unset, .unset] []))
    refine own_go (fun _ hr => XS.iconst X0.here hx rfl (hb hby at_10) (XS.istoreN X0.here hx rfl (hb hby at_11) rfl (l' := #[.val (.int x0), .val (.int x1), .val (.int (0 : Int32)), .unset, .unset]) rfl (XS.iloadN X0.here hx rfl (hb hby at_12) rfl (XS.iconst X0.here hx rfl (hb hby at_13) (XS.iand X0.here hx rfl (hb hby at_14) rfl hr))))) ?_
    show own_Go p e below _ (s₁.setTop (mkF m 15 #[.val (.int x0), .val (.int x1), .val (.int (0 : Int32)), .unset, .unset] [(.int (x1 &&& (1 : Int32)))]))
    by_cases c2 : (x1 &&& (1 : Int32)) = (0 : Int32)
    · refine own_go (fun _ hr => XS.ifYes X0.here hx rfl (pc0 := 15) (pc' := 22) rfl (hb hby at_15) rfl ((if0 _ _).trans (teq c2).1) (by decide) (by decide) hr) ?_
      show own_Go p e below _ (s₁.setTop (mkF m 22 #[.val (.int x0), .val (.int x1), .val (.int (0 : Int32)), .unset, .unset] []))
      refine own_go (fun _ hr => XS.iconst X0.here hx rfl (hb hby at_22) (XS.istoreN X0.here hx rfl (hb hby at_23) rfl (l' := #[.val (.int x0), .val (.int x1), .val (.int (0 : Int32)), .val (.int (0 : Int32)), .unset]) rfl (XS.iloadN X0.here hx rfl (hb hby at_24) rfl (XS.iloadN X0.here hx rfl (hb hby at_25) rfl hr)))) ?_
      show own_Go p e below _ (s₁.setTop (mkF m 26 #[.val (.int x0), .val (.int x1), .val (.int (0 : Int32)), .val (.int (0 : Int32)), .unset] [(.int (0 : Int32)), (.int (0 : Int32))]))
      refine own_cs X0 hx hZ hown (hw _ (own_m 0 rfl)) (hw _ (own_m 1 rfl)) (hw _ (own_m 2 rfl)) (hw _ (own_m 3 rfl)) (by decide) (rm := { frames := 0, cells := 0, slots := 0, locals := 0 }) (rm_a1_of l Z a0 hw [] r_UNKNOWN h0 n0 Z0 S_UNKNOWN) (by decide) (W := 0) (by decide) (by decide) (by decide) e0 (by rw [hml]; rfl) (argsL := [(.int (0 : Int32)), (.int (0 : Int32))]) (lenOf own_pd0 rfl) (rest := []) rfl rfl (Nat.le_of_eq rfl) (hb hby at_26) ?_
      intro _ T3 L3 X3 hQ3
      obtain ⟨rfl, N3q, e3⟩ := hQ3
      have N3 := Fr.app N0 N3q
      show own_Go p e below _ (T3.setTop (mkF m 29 #[.val (.int x0), .val (.int x1), .val (.int (0 : Int32)), .val (.int (0 : Int32)), .unset] [(.ref r_UNKNOWN)]))
      refine own_go (fun _ hr => XS.astore X3.here hx rfl (hb hby at_29) rfl rfl (l' := #[.val (.int x0), .val (.int x1), .val (.int (0 : Int32)), .val (.int (0 : Int32)), .val (.ref r_UNKNOWN)]) rfl (XS.aload X3.here hx rfl (hb hby at_31) rfl rfl hr)) ?_
      show own_Go p e below _ (T3.setTop (mkF m 33 #[.val (.int x0), .val (.int x1), .val (.int (0 : Int32)), .val (.int (0 : Int32)), .val (.ref r_UNKNOWN)] [(.ref r_UNKNOWN)]))
      refine own_go (fun _ hr => XS.ifnonnullYes X3.here hx rfl (pc0 := 33) (pc' := 38) rfl (hb hby at_33) rfl (by decide) (by decide) hr) ?_
      show own_Go p e below _ (T3.setTop (mkF m 38 #[.val (.int x0), .val (.int x1), .val (.int (0 : Int32)), .val (.int (0 : Int32)), .val (.ref r_UNKNOWN)] []))
      refine own_go (fun _ hr => XS.aload X3.here hx rfl (hb hby at_38) rfl rfl hr) ?_
      show own_Go p e below _ (T3.setTop (mkF m 40 #[.val (.int x0), .val (.int x1), .val (.int (0 : Int32)), .val (.int (0 : Int32)), .val (.ref r_UNKNOWN)] [(.ref r_UNKNOWN)]))
      refine own_cv X3 hx hZ hown (notFace_of_selects (args := #[]) (mvT hZ (hw _ (own_m 9 rfl)))) (hw _ (own_m 6 rfl)) (hw _ (own_m 7 rfl)) (hw _ (own_m 9 rfl)) (hw _ (own_m 8 rfl)) (hw _ (own_m 2 rfl)) (hw _ (own_m 10 rfl)) (by decide) E_UNKNOWN (rm := { frames := 0, cells := 0, slots := 0, locals := 0 }) (rm_a2_isKnownTrue l Z a0 hw [] r_UNKNOWN h0 n0 Z0 F_UNKNOWN_knownTrue) (by decide) (W := 0) (by decide) (by decide) (by decide) e3 (by rw [hml]; rfl) (argsL := []) (lenOf own_pd1 rfl) (rest := []) rfl rfl (Nat.le_of_eq rfl) (hb hby at_40) ?_
      intro _ T4 L4 X4 hQ4
      obtain ⟨rfl, N4q, e4⟩ := hQ4
      have N4 := Fr.app N3 N4q
      show own_Go p e below _ (T4.setTop (mkF m 43 #[.val (.int x0), .val (.int x1), .val (.int (0 : Int32)), .val (.int (0 : Int32)), .val (.ref r_UNKNOWN)] [(.int (0 : Int32))]))
      refine own_go (fun _ hr => XS.iloadN X4.here hx rfl (hb hby at_43) rfl (XS.icmpNo X4.here hx rfl (hb hby at_44) rfl (teq (by decide)).2 (XS.aload X4.here hx rfl (hb hby at_47) rfl rfl hr))) ?_
      show own_Go p e below _ (T4.setTop (mkF m 49 #[.val (.int x0), .val (.int x1), .val (.int (0 : Int32)), .val (.int (0 : Int32)), .val (.ref r_UNKNOWN)] [(.ref r_UNKNOWN)]))
      refine own_cv X4 hx hZ hown (notFace_of_selects (args := #[]) (mvT hZ (hw _ (own_m 16 rfl)))) (hw _ (own_m 13 rfl)) (hw _ (own_m 14 rfl)) (hw _ (own_m 16 rfl)) (hw _ (own_m 15 rfl)) (hw _ (own_m 2 rfl)) (hw _ (own_m 17 rfl)) (by decide) E_UNKNOWN (rm := { frames := 0, cells := 0, slots := 0, locals := 0 }) (rm_a3_isKnownFalse l Z a0 hw [] r_UNKNOWN h0 n0 Z0 F_UNKNOWN_knownFalse) (by decide) (W := 0) (by decide) (by decide) (by decide) e4 (by rw [hml]; rfl) (argsL := []) (lenOf own_pd1 rfl) (rest := []) rfl rfl (Nat.le_of_eq rfl) (hb hby at_49) ?_
      intro _ T5 L5 X5 hQ5
      obtain ⟨rfl, N5q, e5⟩ := hQ5
      have N5 := Fr.app N4 N5q
      show own_Go p e below _ (T5.setTop (mkF m 52 #[.val (.int x0), .val (.int x1), .val (.int (0 : Int32)), .val (.int (0 : Int32)), .val (.ref r_UNKNOWN)] [(.int (0 : Int32))]))
      refine own_go (fun _ hr => XS.iloadN X5.here hx rfl (hb hby at_52) rfl (XS.icmpNo X5.here hx rfl (hb hby at_53) rfl (teq (by decide)).2 (XS.iconst X5.here hx rfl (hb hby at_56) (XS.goto X5.here hx rfl (pc0 := 57) (pc' := 61) rfl (hb hby at_57) (by decide) (by decide) hr)))) ?_
      show own_Go p e below _ (T5.setTop (mkF m 61 #[.val (.int x0), .val (.int x1), .val (.int (0 : Int32)), .val (.int (0 : Int32)), .val (.ref r_UNKNOWN)] [(.int (1 : Int32))]))
      exact own_retN X5 hx hlk Bd.returns (t := .boolean) (by simp) (hb hby at_61) (by decide) (by decide) ⟨rfl, N5⟩
    refine own_go (fun _ hr => XS.ifNo X0.here hx rfl (hb hby at_15) rfl ((if0 _ _).trans (feq c2).1) hr) ?_
    show own_Go p e below _ (s₁.setTop (mkF m 18 #[.val (.int x0), .val (.int x1), .val (.int (0 : Int32)), .unset, .unset] []))
    refine own_go (fun _ hr => XS.iconst X0.here hx rfl (hb hby at_18) (XS.goto X0.here hx rfl (pc0 := 19) (pc' := 23) rfl (hb hby at_19) (by decide) (by decide) (XS.istoreN X0.here hx rfl (hb hby at_23) rfl (l' := #[.val (.int x0), .val (.int x1), .val (.int (0 : Int32)), .val (.int (1 : Int32)), .unset]) rfl (XS.iloadN X0.here hx rfl (hb hby at_24) rfl (XS.iloadN X0.here hx rfl (hb hby at_25) rfl hr))))) ?_
    show own_Go p e below _ (s₁.setTop (mkF m 26 #[.val (.int x0), .val (.int x1), .val (.int (0 : Int32)), .val (.int (1 : Int32)), .unset] [(.int (1 : Int32)), (.int (0 : Int32))]))
    refine own_cs X0 hx hZ hown (hw _ (own_m 0 rfl)) (hw _ (own_m 1 rfl)) (hw _ (own_m 2 rfl)) (hw _ (own_m 3 rfl)) (by decide) (rm := { frames := 0, cells := 0, slots := 0, locals := 0 }) (rm_a4_of l Z a0 hw [] r_FALSE h0 n0 Z0 S_FALSE) (by decide) (W := 0) (by decide) (by decide) (by decide) e0 (by rw [hml]; rfl) (argsL := [(.int (0 : Int32)), (.int (1 : Int32))]) (lenOf own_pd0 rfl) (rest := []) rfl rfl (Nat.le_of_eq rfl) (hb hby at_26) ?_
    intro _ T6 L6 X6 hQ6
    obtain ⟨rfl, N6q, e6⟩ := hQ6
    have N6 := Fr.app N0 N6q
    show own_Go p e below _ (T6.setTop (mkF m 29 #[.val (.int x0), .val (.int x1), .val (.int (0 : Int32)), .val (.int (1 : Int32)), .unset] [(.ref r_FALSE)]))
    refine own_go (fun _ hr => XS.astore X6.here hx rfl (hb hby at_29) rfl rfl (l' := #[.val (.int x0), .val (.int x1), .val (.int (0 : Int32)), .val (.int (1 : Int32)), .val (.ref r_FALSE)]) rfl (XS.aload X6.here hx rfl (hb hby at_31) rfl rfl hr)) ?_
    show own_Go p e below _ (T6.setTop (mkF m 33 #[.val (.int x0), .val (.int x1), .val (.int (0 : Int32)), .val (.int (1 : Int32)), .val (.ref r_FALSE)] [(.ref r_FALSE)]))
    refine own_go (fun _ hr => XS.ifnonnullYes X6.here hx rfl (pc0 := 33) (pc' := 38) rfl (hb hby at_33) rfl (by decide) (by decide) hr) ?_
    show own_Go p e below _ (T6.setTop (mkF m 38 #[.val (.int x0), .val (.int x1), .val (.int (0 : Int32)), .val (.int (1 : Int32)), .val (.ref r_FALSE)] []))
    refine own_go (fun _ hr => XS.aload X6.here hx rfl (hb hby at_38) rfl rfl hr) ?_
    show own_Go p e below _ (T6.setTop (mkF m 40 #[.val (.int x0), .val (.int x1), .val (.int (0 : Int32)), .val (.int (1 : Int32)), .val (.ref r_FALSE)] [(.ref r_FALSE)]))
    refine own_cv X6 hx hZ hown (notFace_of_selects (args := #[]) (mvT hZ (hw _ (own_m 9 rfl)))) (hw _ (own_m 6 rfl)) (hw _ (own_m 7 rfl)) (hw _ (own_m 9 rfl)) (hw _ (own_m 8 rfl)) (hw _ (own_m 2 rfl)) (hw _ (own_m 10 rfl)) (by decide) E_FALSE (rm := { frames := 0, cells := 0, slots := 0, locals := 0 }) (rm_a5_isKnownTrue l Z a0 hw [] r_FALSE h0 n0 Z0 F_FALSE_knownTrue) (by decide) (W := 0) (by decide) (by decide) (by decide) e6 (by rw [hml]; rfl) (argsL := []) (lenOf own_pd1 rfl) (rest := []) rfl rfl (Nat.le_of_eq rfl) (hb hby at_40) ?_
    intro _ T7 L7 X7 hQ7
    obtain ⟨rfl, N7q, e7⟩ := hQ7
    have N7 := Fr.app N6 N7q
    show own_Go p e below _ (T7.setTop (mkF m 43 #[.val (.int x0), .val (.int x1), .val (.int (0 : Int32)), .val (.int (1 : Int32)), .val (.ref r_FALSE)] [(.int (0 : Int32))]))
    refine own_go (fun _ hr => XS.iloadN X7.here hx rfl (hb hby at_43) rfl (XS.icmpNo X7.here hx rfl (hb hby at_44) rfl (teq (by decide)).2 (XS.aload X7.here hx rfl (hb hby at_47) rfl rfl hr))) ?_
    show own_Go p e below _ (T7.setTop (mkF m 49 #[.val (.int x0), .val (.int x1), .val (.int (0 : Int32)), .val (.int (1 : Int32)), .val (.ref r_FALSE)] [(.ref r_FALSE)]))
    refine own_cv X7 hx hZ hown (notFace_of_selects (args := #[]) (mvT hZ (hw _ (own_m 16 rfl)))) (hw _ (own_m 13 rfl)) (hw _ (own_m 14 rfl)) (hw _ (own_m 16 rfl)) (hw _ (own_m 15 rfl)) (hw _ (own_m 2 rfl)) (hw _ (own_m 17 rfl)) (by decide) E_FALSE (rm := { frames := 0, cells := 0, slots := 0, locals := 0 }) (rm_a6_isKnownFalse l Z a0 hw [] r_FALSE h0 n0 Z0 F_FALSE_knownFalse) (by decide) (W := 0) (by decide) (by decide) (by decide) e7 (by rw [hml]; rfl) (argsL := []) (lenOf own_pd1 rfl) (rest := []) rfl rfl (Nat.le_of_eq rfl) (hb hby at_49) ?_
    intro _ T8 L8 X8 hQ8
    obtain ⟨rfl, N8q, e8⟩ := hQ8
    have N8 := Fr.app N7 N8q
    show own_Go p e below _ (T8.setTop (mkF m 52 #[.val (.int x0), .val (.int x1), .val (.int (0 : Int32)), .val (.int (1 : Int32)), .val (.ref r_FALSE)] [(.int (1 : Int32))]))
    refine own_go (fun _ hr => XS.iloadN X8.here hx rfl (hb hby at_52) rfl (XS.icmpNo X8.here hx rfl (hb hby at_53) rfl (teq (by decide)).2 (XS.iconst X8.here hx rfl (hb hby at_56) (XS.goto X8.here hx rfl (pc0 := 57) (pc' := 61) rfl (hb hby at_57) (by decide) (by decide) hr)))) ?_
    show own_Go p e below _ (T8.setTop (mkF m 61 #[.val (.int x0), .val (.int x1), .val (.int (0 : Int32)), .val (.int (1 : Int32)), .val (.ref r_FALSE)] [(.int (1 : Int32))]))
    exact own_retN X8 hx hlk Bd.returns (t := .boolean) (by simp) (hb hby at_61) (by decide) (by decide) ⟨rfl, N8⟩
  refine own_go (fun _ hr => XS.ifNo X0.here hx rfl (hb hby at_3) rfl ((if0 _ _).trans (feq c1).1) hr) ?_
  show own_Go p e below _ (s₁.setTop (mkF m 6 #[.val (.int x0), .val (.int x1), .unset, .unset, .unset] []))
  refine own_go (fun _ hr => XS.iconst X0.here hx rfl (hb hby at_6) (XS.goto X0.here hx rfl (pc0 := 7) (pc' := 11) rfl (hb hby at_7) (by decide) (by decide) (XS.istoreN X0.here hx rfl (hb hby at_11) rfl (l' := #[.val (.int x0), .val (.int x1), .val (.int (1 : Int32)), .unset, .unset]) rfl (XS.iloadN X0.here hx rfl (hb hby at_12) rfl (XS.iconst X0.here hx rfl (hb hby at_13) (XS.iand X0.here hx rfl (hb hby at_14) rfl hr)))))) ?_
  show own_Go p e below _ (s₁.setTop (mkF m 15 #[.val (.int x0), .val (.int x1), .val (.int (1 : Int32)), .unset, .unset] [(.int (x1 &&& (1 : Int32)))]))
  by_cases c9 : (x1 &&& (1 : Int32)) = (0 : Int32)
  · refine own_go (fun _ hr => XS.ifYes X0.here hx rfl (pc0 := 15) (pc' := 22) rfl (hb hby at_15) rfl ((if0 _ _).trans (teq c9).1) (by decide) (by decide) hr) ?_
    show own_Go p e below _ (s₁.setTop (mkF m 22 #[.val (.int x0), .val (.int x1), .val (.int (1 : Int32)), .unset, .unset] []))
    refine own_go (fun _ hr => XS.iconst X0.here hx rfl (hb hby at_22) (XS.istoreN X0.here hx rfl (hb hby at_23) rfl (l' := #[.val (.int x0), .val (.int x1), .val (.int (1 : Int32)), .val (.int (0 : Int32)), .unset]) rfl (XS.iloadN X0.here hx rfl (hb hby at_24) rfl (XS.iloadN X0.here hx rfl (hb hby at_25) rfl hr)))) ?_
    show own_Go p e below _ (s₁.setTop (mkF m 26 #[.val (.int x0), .val (.int x1), .val (.int (1 : Int32)), .val (.int (0 : Int32)), .unset] [(.int (0 : Int32)), (.int (1 : Int32))]))
    refine own_cs X0 hx hZ hown (hw _ (own_m 0 rfl)) (hw _ (own_m 1 rfl)) (hw _ (own_m 2 rfl)) (hw _ (own_m 3 rfl)) (by decide) (rm := { frames := 0, cells := 0, slots := 0, locals := 0 }) (rm_a7_of l Z a0 hw [] r_TRUE h0 n0 Z0 S_TRUE) (by decide) (W := 0) (by decide) (by decide) (by decide) e0 (by rw [hml]; rfl) (argsL := [(.int (1 : Int32)), (.int (0 : Int32))]) (lenOf own_pd0 rfl) (rest := []) rfl rfl (Nat.le_of_eq rfl) (hb hby at_26) ?_
    intro _ T10 L10 X10 hQ10
    obtain ⟨rfl, N10q, e10⟩ := hQ10
    have N10 := Fr.app N0 N10q
    show own_Go p e below _ (T10.setTop (mkF m 29 #[.val (.int x0), .val (.int x1), .val (.int (1 : Int32)), .val (.int (0 : Int32)), .unset] [(.ref r_TRUE)]))
    refine own_go (fun _ hr => XS.astore X10.here hx rfl (hb hby at_29) rfl rfl (l' := #[.val (.int x0), .val (.int x1), .val (.int (1 : Int32)), .val (.int (0 : Int32)), .val (.ref r_TRUE)]) rfl (XS.aload X10.here hx rfl (hb hby at_31) rfl rfl hr)) ?_
    show own_Go p e below _ (T10.setTop (mkF m 33 #[.val (.int x0), .val (.int x1), .val (.int (1 : Int32)), .val (.int (0 : Int32)), .val (.ref r_TRUE)] [(.ref r_TRUE)]))
    refine own_go (fun _ hr => XS.ifnonnullYes X10.here hx rfl (pc0 := 33) (pc' := 38) rfl (hb hby at_33) rfl (by decide) (by decide) hr) ?_
    show own_Go p e below _ (T10.setTop (mkF m 38 #[.val (.int x0), .val (.int x1), .val (.int (1 : Int32)), .val (.int (0 : Int32)), .val (.ref r_TRUE)] []))
    refine own_go (fun _ hr => XS.aload X10.here hx rfl (hb hby at_38) rfl rfl hr) ?_
    show own_Go p e below _ (T10.setTop (mkF m 40 #[.val (.int x0), .val (.int x1), .val (.int (1 : Int32)), .val (.int (0 : Int32)), .val (.ref r_TRUE)] [(.ref r_TRUE)]))
    refine own_cv X10 hx hZ hown (notFace_of_selects (args := #[]) (mvT hZ (hw _ (own_m 9 rfl)))) (hw _ (own_m 6 rfl)) (hw _ (own_m 7 rfl)) (hw _ (own_m 9 rfl)) (hw _ (own_m 8 rfl)) (hw _ (own_m 2 rfl)) (hw _ (own_m 10 rfl)) (by decide) E_TRUE (rm := { frames := 0, cells := 0, slots := 0, locals := 0 }) (rm_a8_isKnownTrue l Z a0 hw [] r_TRUE h0 n0 Z0 F_TRUE_knownTrue) (by decide) (W := 0) (by decide) (by decide) (by decide) e10 (by rw [hml]; rfl) (argsL := []) (lenOf own_pd1 rfl) (rest := []) rfl rfl (Nat.le_of_eq rfl) (hb hby at_40) ?_
    intro _ T11 L11 X11 hQ11
    obtain ⟨rfl, N11q, e11⟩ := hQ11
    have N11 := Fr.app N10 N11q
    show own_Go p e below _ (T11.setTop (mkF m 43 #[.val (.int x0), .val (.int x1), .val (.int (1 : Int32)), .val (.int (0 : Int32)), .val (.ref r_TRUE)] [(.int (1 : Int32))]))
    refine own_go (fun _ hr => XS.iloadN X11.here hx rfl (hb hby at_43) rfl (XS.icmpNo X11.here hx rfl (hb hby at_44) rfl (teq (by decide)).2 (XS.aload X11.here hx rfl (hb hby at_47) rfl rfl hr))) ?_
    show own_Go p e below _ (T11.setTop (mkF m 49 #[.val (.int x0), .val (.int x1), .val (.int (1 : Int32)), .val (.int (0 : Int32)), .val (.ref r_TRUE)] [(.ref r_TRUE)]))
    refine own_cv X11 hx hZ hown (notFace_of_selects (args := #[]) (mvT hZ (hw _ (own_m 16 rfl)))) (hw _ (own_m 13 rfl)) (hw _ (own_m 14 rfl)) (hw _ (own_m 16 rfl)) (hw _ (own_m 15 rfl)) (hw _ (own_m 2 rfl)) (hw _ (own_m 17 rfl)) (by decide) E_TRUE (rm := { frames := 0, cells := 0, slots := 0, locals := 0 }) (rm_a9_isKnownFalse l Z a0 hw [] r_TRUE h0 n0 Z0 F_TRUE_knownFalse) (by decide) (W := 0) (by decide) (by decide) (by decide) e11 (by rw [hml]; rfl) (argsL := []) (lenOf own_pd1 rfl) (rest := []) rfl rfl (Nat.le_of_eq rfl) (hb hby at_49) ?_
    intro _ T12 L12 X12 hQ12
    obtain ⟨rfl, N12q, e12⟩ := hQ12
    have N12 := Fr.app N11 N12q
    show own_Go p e below _ (T12.setTop (mkF m 52 #[.val (.int x0), .val (.int x1), .val (.int (1 : Int32)), .val (.int (0 : Int32)), .val (.ref r_TRUE)] [(.int (0 : Int32))]))
    refine own_go (fun _ hr => XS.iloadN X12.here hx rfl (hb hby at_52) rfl (XS.icmpNo X12.here hx rfl (hb hby at_53) rfl (teq (by decide)).2 (XS.iconst X12.here hx rfl (hb hby at_56) (XS.goto X12.here hx rfl (pc0 := 57) (pc' := 61) rfl (hb hby at_57) (by decide) (by decide) hr)))) ?_
    show own_Go p e below _ (T12.setTop (mkF m 61 #[.val (.int x0), .val (.int x1), .val (.int (1 : Int32)), .val (.int (0 : Int32)), .val (.ref r_TRUE)] [(.int (1 : Int32))]))
    exact own_retN X12 hx hlk Bd.returns (t := .boolean) (by simp) (hb hby at_61) (by decide) (by decide) ⟨rfl, N12⟩
  refine own_go (fun _ hr => XS.ifNo X0.here hx rfl (hb hby at_15) rfl ((if0 _ _).trans (feq c9).1) hr) ?_
  show own_Go p e below _ (s₁.setTop (mkF m 18 #[.val (.int x0), .val (.int x1), .val (.int (1 : Int32)), .unset, .unset] []))
  refine own_go (fun _ hr => XS.iconst X0.here hx rfl (hb hby at_18) (XS.goto X0.here hx rfl (pc0 := 19) (pc' := 23) rfl (hb hby at_19) (by decide) (by decide) (XS.istoreN X0.here hx rfl (hb hby at_23) rfl (l' := #[.val (.int x0), .val (.int x1), .val (.int (1 : Int32)), .val (.int (1 : Int32)), .unset]) rfl (XS.iloadN X0.here hx rfl (hb hby at_24) rfl (XS.iloadN X0.here hx rfl (hb hby at_25) rfl hr))))) ?_
  show own_Go p e below _ (s₁.setTop (mkF m 26 #[.val (.int x0), .val (.int x1), .val (.int (1 : Int32)), .val (.int (1 : Int32)), .unset] [(.int (1 : Int32)), (.int (1 : Int32))]))
  refine own_cs X0 hx hZ hown (hw _ (own_m 0 rfl)) (hw _ (own_m 1 rfl)) (hw _ (own_m 2 rfl)) (hw _ (own_m 3 rfl)) (by decide) (rm := { frames := 0, cells := 0, slots := 0, locals := 0 }) (rm_a10_of l Z a0 hw [] r_INCONSISTENT h0 n0 Z0 S_INCONSISTENT) (by decide) (W := 0) (by decide) (by decide) (by decide) e0 (by rw [hml]; rfl) (argsL := [(.int (1 : Int32)), (.int (1 : Int32))]) (lenOf own_pd0 rfl) (rest := []) rfl rfl (Nat.le_of_eq rfl) (hb hby at_26) ?_
  intro _ T13 L13 X13 hQ13
  obtain ⟨rfl, N13q, e13⟩ := hQ13
  have N13 := Fr.app N0 N13q
  show own_Go p e below _ (T13.setTop (mkF m 29 #[.val (.int x0), .val (.int x1), .val (.int (1 : Int32)), .val (.int (1 : Int32)), .unset] [(.ref r_INCONSISTENT)]))
  refine own_go (fun _ hr => XS.astore X13.here hx rfl (hb hby at_29) rfl rfl (l' := #[.val (.int x0), .val (.int x1), .val (.int (1 : Int32)), .val (.int (1 : Int32)), .val (.ref r_INCONSISTENT)]) rfl (XS.aload X13.here hx rfl (hb hby at_31) rfl rfl hr)) ?_
  show own_Go p e below _ (T13.setTop (mkF m 33 #[.val (.int x0), .val (.int x1), .val (.int (1 : Int32)), .val (.int (1 : Int32)), .val (.ref r_INCONSISTENT)] [(.ref r_INCONSISTENT)]))
  refine own_go (fun _ hr => XS.ifnonnullYes X13.here hx rfl (pc0 := 33) (pc' := 38) rfl (hb hby at_33) rfl (by decide) (by decide) hr) ?_
  show own_Go p e below _ (T13.setTop (mkF m 38 #[.val (.int x0), .val (.int x1), .val (.int (1 : Int32)), .val (.int (1 : Int32)), .val (.ref r_INCONSISTENT)] []))
  refine own_go (fun _ hr => XS.aload X13.here hx rfl (hb hby at_38) rfl rfl hr) ?_
  show own_Go p e below _ (T13.setTop (mkF m 40 #[.val (.int x0), .val (.int x1), .val (.int (1 : Int32)), .val (.int (1 : Int32)), .val (.ref r_INCONSISTENT)] [(.ref r_INCONSISTENT)]))
  refine own_cv X13 hx hZ hown (notFace_of_selects (args := #[]) (mvT hZ (hw _ (own_m 9 rfl)))) (hw _ (own_m 6 rfl)) (hw _ (own_m 7 rfl)) (hw _ (own_m 9 rfl)) (hw _ (own_m 8 rfl)) (hw _ (own_m 2 rfl)) (hw _ (own_m 10 rfl)) (by decide) E_INCONSISTENT (rm := { frames := 0, cells := 0, slots := 0, locals := 0 }) (rm_a11_isKnownTrue l Z a0 hw [] r_INCONSISTENT h0 n0 Z0 F_INCONSISTENT_knownTrue) (by decide) (W := 0) (by decide) (by decide) (by decide) e13 (by rw [hml]; rfl) (argsL := []) (lenOf own_pd1 rfl) (rest := []) rfl rfl (Nat.le_of_eq rfl) (hb hby at_40) ?_
  intro _ T14 L14 X14 hQ14
  obtain ⟨rfl, N14q, e14⟩ := hQ14
  have N14 := Fr.app N13 N14q
  show own_Go p e below _ (T14.setTop (mkF m 43 #[.val (.int x0), .val (.int x1), .val (.int (1 : Int32)), .val (.int (1 : Int32)), .val (.ref r_INCONSISTENT)] [(.int (1 : Int32))]))
  refine own_go (fun _ hr => XS.iloadN X14.here hx rfl (hb hby at_43) rfl (XS.icmpNo X14.here hx rfl (hb hby at_44) rfl (teq (by decide)).2 (XS.aload X14.here hx rfl (hb hby at_47) rfl rfl hr))) ?_
  show own_Go p e below _ (T14.setTop (mkF m 49 #[.val (.int x0), .val (.int x1), .val (.int (1 : Int32)), .val (.int (1 : Int32)), .val (.ref r_INCONSISTENT)] [(.ref r_INCONSISTENT)]))
  refine own_cv X14 hx hZ hown (notFace_of_selects (args := #[]) (mvT hZ (hw _ (own_m 16 rfl)))) (hw _ (own_m 13 rfl)) (hw _ (own_m 14 rfl)) (hw _ (own_m 16 rfl)) (hw _ (own_m 15 rfl)) (hw _ (own_m 2 rfl)) (hw _ (own_m 17 rfl)) (by decide) E_INCONSISTENT (rm := { frames := 0, cells := 0, slots := 0, locals := 0 }) (rm_a12_isKnownFalse l Z a0 hw [] r_INCONSISTENT h0 n0 Z0 F_INCONSISTENT_knownFalse) (by decide) (W := 0) (by decide) (by decide) (by decide) e14 (by rw [hml]; rfl) (argsL := []) (lenOf own_pd1 rfl) (rest := []) rfl rfl (Nat.le_of_eq rfl) (hb hby at_49) ?_
  intro _ T15 L15 X15 hQ15
  obtain ⟨rfl, N15q, e15⟩ := hQ15
  have N15 := Fr.app N14 N15q
  show own_Go p e below _ (T15.setTop (mkF m 52 #[.val (.int x0), .val (.int x1), .val (.int (1 : Int32)), .val (.int (1 : Int32)), .val (.ref r_INCONSISTENT)] [(.int (1 : Int32))]))
  refine own_go (fun _ hr => XS.iloadN X15.here hx rfl (hb hby at_52) rfl (XS.icmpNo X15.here hx rfl (hb hby at_53) rfl (teq (by decide)).2 (XS.iconst X15.here hx rfl (hb hby at_56) (XS.goto X15.here hx rfl (pc0 := 57) (pc' := 61) rfl (hb hby at_57) (by decide) (by decide) hr)))) ?_
  show own_Go p e below _ (T15.setTop (mkF m 61 #[.val (.int x0), .val (.int x1), .val (.int (1 : Int32)), .val (.int (1 : Int32)), .val (.ref r_INCONSISTENT)] [(.int (1 : Int32))]))
  exact own_retN X15 hx hlk Bd.returns (t := .boolean) (by simp) (hb hby at_61) (by decide) (by decide) ⟨rfl, N15⟩
set_option maxRecDepth 65536 in
set_option maxHeartbeats 40000000 in
theorem comes_1 {Post : Tables → Env → Array Value → State → Outcome → State → Prop} (hpost : ∀ tb e args s v u, (limb_1_1.after args s (.returned v) u = true ∧ limb_1_2.after args s (.returned v) u = true ∧ True) → FrameEnd s (.returned v) u (Jvm.fieldLocs frame_1_writes args s ++ Jvm.arrayLocs frame_1_arrays args s ++ Jvm.staticLocs frame_1_statics s) 0 0 → Post tb e args s (.returned v) u) :
    ArmFor flags0 classFile x code maxLocals ret World_1 tables_1 room_1 Calls_1 rest_1 Pre_1 Post := by
  intro l hfl _ _ p e ha hc hk s m args below hf hA hF happ hP
  obtain ⟨hcalls, hrest, hpre⟩ := hP
  obtain ⟨-, -, -, hnamed, -, -, -, hat⟩ := (Spec.applies_iff hf).mp happ
  obtain ⟨hg, hn⟩ := and_e (Cond.before_iff.mp (show (Jvm.Cond.and given_1 narrow_1).before args s = true from hpre))
  obtain ⟨g1, g2⟩ := and_e hg
  obtain ⟨g3, g4⟩ := and_e g2
  obtain ⟨w0, w1, rfl⟩ : ∃ w0 w1 : Value, args = #[w0, w1] := by
    have hs : args.size = 2 := by simpa [Cond.value, given_1] using g1
    obtain ⟨L⟩ := args
    match L, hs with
    | [w0, w1], _ => exact ⟨w0, w1, rfl⟩
  have hw := fun d (hd : d ∈ tables_1) => atoms_spec (ws := Jvm.Cond.code x code maxLocals ret :: tables_1) hat d (List.mem_cons_of_mem _ hd)
  have hfit : Fit s := fun {y c} hc i hi => by
    obtain ⟨ha, rfl⟩ := Array.getElem?_eq_some_iff.mp hc
    have q := List.all_eq_true.mp ((Array.all_eq_true_iff_forall_mem.mp hF) _ (Array.getElem_mem ha)) i (List.mem_range.mpr hi)
    simpa [Array.getElem?_eq_getElem hi] using q
  obtain ⟨i0, ei0⟩ := is_v g3
  obtain rfl : w0 = (.int i0) := Option.some.inj ei0
  obtain ⟨i1, ei1⟩ := is_v g4
  obtain rfl : w1 = (.int i1) := Option.some.inj ei1
  obtain ⟨g5, g6⟩ := and_e hn
  obtain ⟨g7, g8⟩ := and_e g6
  obtain ⟨g9, g10⟩ := and_e g8
  obtain ⟨g11, g12⟩ := and_e g10
  obtain ⟨g13, g14⟩ := and_e g12
  obtain ⟨g15, g16⟩ := and_e g14
  obtain ⟨g17, g18⟩ := and_e g16
  obtain ⟨g19, g20⟩ := and_e g18
  obtain ⟨g21, g22⟩ := and_e g20
  obtain ⟨g23, g24⟩ := and_e g22
  obtain ⟨g25, g26⟩ := and_e g24
  obtain ⟨r_FALSE, er_FALSE⟩ := exa_v g5
  have S_FALSE := Sta.start er_FALSE (Or.inr ⟨(hw _ (own_m 2 rfl)), (hw _ (own_m 5 rfl))⟩)
  have E_FALSE := Exa.start er_FALSE g5
  have F_FALSE_knownTrue := Fld.start ((fld_at er_FALSE).symm.trans (own_eq_int g7))
  have F_FALSE_knownFalse := Fld.start ((fld_at er_FALSE).symm.trans (own_eq_int g9))
  obtain ⟨r_UNKNOWN, er_UNKNOWN⟩ := exa_v g11
  have S_UNKNOWN := Sta.start er_UNKNOWN (Or.inr ⟨(hw _ (own_m 2 rfl)), (hw _ (own_m 21 rfl))⟩)
  have E_UNKNOWN := Exa.start er_UNKNOWN g11
  have F_UNKNOWN_knownTrue := Fld.start ((fld_at er_UNKNOWN).symm.trans (own_eq_int g13))
  have F_UNKNOWN_knownFalse := Fld.start ((fld_at er_UNKNOWN).symm.trans (own_eq_int g15))
  obtain ⟨r_INCONSISTENT, er_INCONSISTENT⟩ := exa_v g17
  have S_INCONSISTENT := Sta.start er_INCONSISTENT (Or.inr ⟨(hw _ (own_m 2 rfl)), (hw _ (own_m 23 rfl))⟩)
  have E_INCONSISTENT := Exa.start er_INCONSISTENT g17
  have F_INCONSISTENT_knownTrue := Fld.start ((fld_at er_INCONSISTENT).symm.trans (own_eq_int g19))
  have F_INCONSISTENT_knownFalse := Fld.start ((fld_at er_INCONSISTENT).symm.trans (own_eq_int g21))
  obtain ⟨r_TRUE, er_TRUE⟩ := exa_v g23
  have S_TRUE := Sta.start er_TRUE (Or.inr ⟨(hw _ (own_m 2 rfl)), (hw _ (own_m 25 rfl))⟩)
  have E_TRUE := Exa.start er_TRUE g23
  have F_TRUE_knownTrue := Fld.start ((fld_at er_TRUE).symm.trans (own_eq_int g25))
  have F_TRUE_knownFalse := Fld.start ((fld_at er_TRUE).symm.trans (own_eq_int g26))
  obtain ⟨n, o, h1, h2, h3, _, L, rfl, ⟨rfl, N⟩, hq⟩ := rm_law l s _ hw tables_1 i0 i1 r_FALSE r_UNKNOWN r_INCONSISTENT r_TRUE s.heap s.heap.size (Nat.le_refl _) S_FALSE E_FALSE F_FALSE_knownTrue F_FALSE_knownFalse S_UNKNOWN E_UNKNOWN F_UNKNOWN_knownTrue F_UNKNOWN_knownFalse S_INCONSISTENT E_INCONSISTENT F_INCONSISTENT_knownTrue F_INCONSISTENT_knownFalse S_TRUE E_TRUE F_TRUE_knownTrue F_TRUE_knownFalse p e ha hc hk s m _ below hf ((Spec.applies_iff_loose hf).mp happ).1 ⟨rfl, State.Warmed39.refl s, rfl⟩ trivial
  refine ⟨n, _, h1, h2, h3, hpost _ _ _ _ _ _ ⟨Cond.after_iff.mpr rfl, Cond.after_iff.mpr (eq_i res_at (Term.int_eval (1)) rfl), trivial⟩ ⟨hq.1, hq.2.1, (hq.2.2.sift fun y hy => Or.inr (N y hy)).mono (by decide) (by decide)⟩⟩
theorem main_1_1 : Claimed_1_1 := comes_1 fun _ _ _ _ _ _ h hF => ⟨h.1, hF⟩
theorem main_1_2 : Claimed_1_2 := comes_1 fun _ _ _ _ _ _ h hF => ⟨h.2.1, hF⟩
end Jvm.Pilot.@@N@@
namespace Jvm.Pilot.@@N@@
open Jvm Jvm.ClassFile Sem Op Lib Jvm.Free Jvm.Stand Jvm.Pilot.@@N@@.Jvm.D
/-! MADE BY PROGRAM (witnessworld.py) out of the Statement's table words and the real class files: 12 classes; the members and pool entries that the words name. The judged class is class 1, her method 1. -/
namespace start1
open Jvm.ClassFile
def u (s : String) : CpInfo := .utf8 (stringToUtf16 s)
/-- a pool by its gaps: so many unusable entries, then the entry; so many at the end -/
def gap : Nat → List CpInfo → List CpInfo
  | 0, r => r
  | n + 1, r => .unusable :: gap n r
def poolList (es : List (Nat × CpInfo)) (last : Nat) : List CpInfo := es.foldr (fun e r => gap e.1 (e.2 :: r)) (gap last [])
def pool (es : List (Nat × CpInfo)) (last : Nat) : Array CpInfo := ⟨poolList es last⟩
def fileOf (pool : Array CpInfo) (this : Nat) (attrs : Array Attribute := #[]) (ms : Array MethodInfo := #[]) (fl : Nat := 33) (sup : Nat := 0) (ifs : Array Nat := #[]) (fds : Array FieldInfo := #[]) : ClassFile where
  minorVersion := 0
  majorVersion := 65
  constantPool := pool
  accessFlags := fl
  thisClass := this
  superClass := sup
  interfaces := ifs
  fields := fds
  methods := ms
  attributes := attrs
def plain (name : String) (sup : Option ClassId) : Class where
  name := name
  kind := .ordinary
  loader := none
  accessFlags := 33
  super := sup
  interfaces := #[]
  cf := none
  fields := #[]
  methods := #[]
  instanceTypes := #[]
  staticTypes := #[]
  resolved := #[]
  callSites := []
  init := .initialized
  statics := none
  mirror := none

def pool0 : Array CpInfo := pool [(5, u "<init>"), (0, u "()V"), (1, .class_ 10), (1, u "java/lang/Object")] 113

def k0m0 : Method := { name := "<init>", desc := "()V", sig := { parameters := [], returnType := none }, accessFlags := 1, code := none }
/-- java/lang/Object -/
def k0 : Class := { plain "java/lang/Object" none with
  accessFlags := 33
  interfaces := #[]
  cf := some (fileOf pool0 8 #[] #[{ accessFlags := 1, nameIndex := 5, descriptorIndex := 6, attributes := #[] }] 33 0 #[] #[])
  fields := #[]
  methods := #[k0m0]
  instanceTypes := #[]
  staticTypes := #[]
  resolved := Array.replicate 124 none
  statics := none }

def pool1 : Array CpInfo := pool [(2, .class_ 4), (1, u "java/lang/Object"), (0, u "<init>"), (0, u "()V"), (0, .methodref 8 9), (0, .class_ 10), (0, .nameAndType 11 12), (0, u "com/example/candid_facts/candidfacts/Truth"), (0, u "of"), (0, u "(ZZ)Lcom/example/candid_facts/candidfacts/Truth;"), (0, .methodref 8 14), (0, .nameAndType 15 16), (0, u "isKnownTrue"), (0, u "()Z"), (0, .methodref 8 18), (0, .nameAndType 19 16), (0, u "isKnownFalse"), (0, .class_ 21), (0, u "com/example/candid_facts/candidfacts/TruthOfPinLaw"), (2, u "law"), (0, u "(II)Z")] 3

def k1m0 : Method := { name := "<init>", desc := "()V", sig := { parameters := [], returnType := none }, accessFlags := 1, code := none }
def k1c1 : Code := { maxStack := 2, maxLocals := 5, code := code, exceptionTable := #[], attributes := #[] }
def k1m1 : Method := { name := "law", desc := "(II)Z", sig := { parameters := [.int, .int], returnType := some .boolean }, accessFlags := 9, code := some k1c1 }
/-- com/example/candid_facts/candidfacts/TruthOfPinLaw -/
def k1 : Class := { plain "com/example/candid_facts/candidfacts/TruthOfPinLaw" (some 0) with
  accessFlags := 49
  interfaces := #[]
  cf := some (fileOf pool1 20 #[] #[{ accessFlags := 1, nameIndex := 5, descriptorIndex := 6, attributes := #[] }, { accessFlags := 9, nameIndex := 24, descriptorIndex := 25, attributes := #[] }] 49 2 #[] #[])
  fields := #[]
  methods := #[k1m0, k1m1]
  instanceTypes := #[]
  staticTypes := #[]
  resolved := Array.replicate 29 none
  statics := none }

def pool2 : Array CpInfo := pool [(1, .class_ 2), (0, u "java/lang/constant/Constable"), (0, .class_ 4), (0, u "java/lang/Object")] 6

/-- java/lang/constant/Constable -/
def k2 : Class := { plain "java/lang/constant/Constable" (some 0) with
  accessFlags := 1537
  interfaces := #[]
  cf := some (fileOf pool2 1 #[] #[] 1537 3 #[] #[])
  fields := #[]
  methods := #[]
  instanceTypes := #[]
  staticTypes := #[]
  resolved := Array.replicate 11 none
  statics := none }

def pool3 : Array CpInfo := pool [(1, .class_ 2), (0, u "java/lang/Comparable"), (0, .class_ 4), (0, u "java/lang/Object")] 7

/-- java/lang/Comparable -/
def k3 : Class := { plain "java/lang/Comparable" (some 0) with
  accessFlags := 1537
  interfaces := #[]
  cf := some (fileOf pool3 1 #[] #[] 1537 3 #[] #[])
  fields := #[]
  methods := #[]
  instanceTypes := #[]
  staticTypes := #[]
  resolved := Array.replicate 12 none
  statics := none }

def pool4 : Array CpInfo := pool [(1, .class_ 2), (0, u "java/io/Serializable"), (0, .class_ 4), (0, u "java/lang/Object")] 2

/-- java/io/Serializable -/
def k4 : Class := { plain "java/io/Serializable" (some 0) with
  accessFlags := 1537
  interfaces := #[]
  cf := some (fileOf pool4 1 #[] #[] 1537 3 #[] #[])
  fields := #[]
  methods := #[]
  instanceTypes := #[]
  staticTypes := #[]
  resolved := Array.replicate 7 none
  statics := none }

def pool5 : Array CpInfo := pool [(2, .class_ 4), (1, u "java/lang/Enum"), (0, u "name"), (0, u "Ljava/lang/String;"), (2, u "ordinal"), (0, u "I"), (1, .class_ 14), (1, u "java/lang/Object"), (4, u "hash"), (86, .class_ 108), (1, u "java/lang/Enum$EnumDesc"), (2, .class_ 112), (0, u "java/lang/constant/Constable"), (0, .class_ 114), (0, u "java/lang/Comparable"), (0, .class_ 116), (0, u "java/io/Serializable")] 87

/-- java/lang/Enum -/
def k5 : Class := { plain "java/lang/Enum" (some 0) with
  accessFlags := 1057
  interfaces := #[2, 3, 4]
  cf := some (fileOf pool5 2 #[.nestMembers #[106]] #[] 1057 12 #[111, 113, 115] #[{ accessFlags := 18, nameIndex := 5, descriptorIndex := 6, attributes := #[] }, { accessFlags := 18, nameIndex := 9, descriptorIndex := 10, attributes := #[] }, { accessFlags := 2, nameIndex := 19, descriptorIndex := 10, attributes := #[] }])
  fields := #[{ name := "name", type := (.object "java/lang/String"), accessFlags := 18, slot := 0, constantValue := 0 }, { name := "ordinal", type := .int, accessFlags := 18, slot := 1, constantValue := 0 }, { name := "hash", type := .int, accessFlags := 2, slot := 2, constantValue := 0 }]
  methods := #[]
  instanceTypes := #[(.object "java/lang/String"), .int, .int]
  staticTypes := #[]
  resolved := Array.replicate 204 none
  statics := none }

def pool6 : Array CpInfo := pool [(1, .class_ 2), (0, u "com/example/candid_facts/candidfacts/Truth"), (0, .fieldref 1 4), (0, .nameAndType 5 6), (0, u "TRUE"), (0, u "Lcom/example/candid_facts/candidfacts/Truth;"), (0, .fieldref 1 8), (0, .nameAndType 9 6), (0, u "FALSE"), (0, .fieldref 1 11), (0, .nameAndType 12 6), (0, u "UNKNOWN"), (0, .fieldref 1 14), (0, .nameAndType 15 6), (0, u "INCONSISTENT"), (2, u "$VALUES"), (0, u "[Lcom/example/candid_facts/candidfacts/Truth;"), (6, .class_ 28), (1, u "java/lang/Enum"), (6, .fieldref 1 36), (0, .nameAndType 37 38), (0, u "knownTrue"), (0, u "Z"), (0, .fieldref 1 40), (0, .nameAndType 41 38), (0, u "knownFalse"), (18, u "of"), (0, u "(ZZ)Lcom/example/candid_facts/candidfacts/Truth;"), (37, u "isKnownTrue"), (0, u "()Z"), (0, u "isKnownFalse")] 8

def k6c0 : Code := { maxStack := 1, maxLocals := 3, code := prog_90_method_4_code, exceptionTable := #[], attributes := #[] }
def k6m0 : Method := { name := "of", desc := "(ZZ)Lcom/example/candid_facts/candidfacts/Truth;", sig := { parameters := [.boolean, .boolean], returnType := some (.object "com/example/candid_facts/candidfacts/Truth") }, accessFlags := 9, code := some k6c0 }
def k6c1 : Code := { maxStack := 1, maxLocals := 1, code := prog_90_method_5_code, exceptionTable := #[], attributes := #[] }
def k6m1 : Method := { name := "isKnownTrue", desc := "()Z", sig := { parameters := [], returnType := some .boolean }, accessFlags := 1, code := some k6c1 }
def k6c2 : Code := { maxStack := 1, maxLocals := 1, code := prog_90_method_6_code, exceptionTable := #[], attributes := #[] }
def k6m2 : Method := { name := "isKnownFalse", desc := "()Z", sig := { parameters := [], returnType := some .boolean }, accessFlags := 1, code := some k6c2 }
/-- com/example/candid_facts/candidfacts/Truth -/
def k6 : Class := { plain "com/example/candid_facts/candidfacts/Truth" (some 5) with
  accessFlags := 16433
  interfaces := #[]
  cf := some (fileOf pool6 1 #[] #[{ accessFlags := 9, nameIndex := 60, descriptorIndex := 61, attributes := #[] }, { accessFlags := 1, nameIndex := 99, descriptorIndex := 100, attributes := #[] }, { accessFlags := 1, nameIndex := 101, descriptorIndex := 100, attributes := #[] }] 16433 26 #[] #[{ accessFlags := 16409, nameIndex := 5, descriptorIndex := 6, attributes := #[] }, { accessFlags := 16409, nameIndex := 9, descriptorIndex := 6, attributes := #[] }, { accessFlags := 16409, nameIndex := 12, descriptorIndex := 6, attributes := #[] }, { accessFlags := 16409, nameIndex := 15, descriptorIndex := 6, attributes := #[] }, { accessFlags := 18, nameIndex := 37, descriptorIndex := 38, attributes := #[] }, { accessFlags := 18, nameIndex := 41, descriptorIndex := 38, attributes := #[] }, { accessFlags := 4122, nameIndex := 18, descriptorIndex := 19, attributes := #[] }])
  fields := #[{ name := "TRUE", type := (.object "com/example/candid_facts/candidfacts/Truth"), accessFlags := 16409, slot := 0, constantValue := 0 }, { name := "FALSE", type := (.object "com/example/candid_facts/candidfacts/Truth"), accessFlags := 16409, slot := 1, constantValue := 0 }, { name := "UNKNOWN", type := (.object "com/example/candid_facts/candidfacts/Truth"), accessFlags := 16409, slot := 2, constantValue := 0 }, { name := "INCONSISTENT", type := (.object "com/example/candid_facts/candidfacts/Truth"), accessFlags := 16409, slot := 3, constantValue := 0 }, { name := "knownTrue", type := .boolean, accessFlags := 18, slot := 3, constantValue := 0 }, { name := "knownFalse", type := .boolean, accessFlags := 18, slot := 4, constantValue := 0 }, { name := "$VALUES", type := (.array (.object "com/example/candid_facts/candidfacts/Truth")), accessFlags := 4122, slot := 4, constantValue := 0 }]
  methods := #[k6m0, k6m1, k6m2]
  instanceTypes := #[(.object "java/lang/String"), .int, .int, .boolean, .boolean]
  staticTypes := #[(.object "com/example/candid_facts/candidfacts/Truth"), (.object "com/example/candid_facts/candidfacts/Truth"), (.object "com/example/candid_facts/candidfacts/Truth"), (.object "com/example/candid_facts/candidfacts/Truth"), (.array (.object "com/example/candid_facts/candidfacts/Truth"))]
  resolved := Array.replicate 110 none
  statics := some 0 }

def pool7 : Array CpInfo := pool [(1, u "java/lang/Cloneable"), (0, .class_ 1), (0, u "java/lang/Object"), (0, .class_ 3)] 3

/-- java/lang/Cloneable -/
def k7 : Class := { plain "java/lang/Cloneable" (some 0) with
  accessFlags := 1537
  interfaces := #[]
  cf := some (fileOf pool7 2 #[] #[] 1537 4 #[] #[])
  fields := #[]
  methods := #[]
  instanceTypes := #[]
  staticTypes := #[]
  resolved := Array.replicate 8 none
  statics := none }

/-- the primitive byte -/
def k8 : Class := { plain "byte" none with kind := .primitive 'B', accessFlags := 0x411 }
/-- [B -/
def k9 : Class := { plain "[B" (some 0) with kind := .array 8 .byte, interfaces := #[7, 4], accessFlags := 1041 }

/-- the primitive int -/
def k10 : Class := { plain "int" none with kind := .primitive 'I', accessFlags := 0x411 }
/-- [I -/
def k11 : Class := { plain "[I" (some 0) with kind := .array 10 .int, interfaces := #[7, 4], accessFlags := 1041 }

def heap : Heap := #[{ cls := 6, slots := #[.ref 4, .ref 1, .ref 2, .ref 3, .null], vm := .statics 6 },
  { cls := 6, slots := #[.null, .int 0, .int 0, .int 0, .int 1], vm := .none },
  { cls := 6, slots := #[.null, .int 0, .int 0, .int 0, .int 0], vm := .none },
  { cls := 6, slots := #[.null, .int 0, .int 0, .int 1, .int 1], vm := .none },
  { cls := 6, slots := #[.null, .int 0, .int 0, .int 1, .int 0], vm := .none }]
def classes : Array Class := #[k0, k1, k2, k3, k4, k5, k6, k7, k8, k9, k10, k11]
def interned : List (Array UInt16 × Addr) := []
def slotsUsed : Nat := 25
def theMethod : MethodId := ⟨1, 1⟩
def args0 : Array Value := #[.int 5, .int 5]
def aboutOver (below : List Frame) : State where
  vm := { classes := classes, interned := interned.toArray }
  heap := heap
  slotsUsed := slotsUsed
  threads := #[{ frames := .invoking theMethod args0 :: below }]
def below0 : List Frame := [.native { method := ⟨0, 0⟩, args := #[] }]
def about1 : State := aboutOver below0
def p0 : Program := .bare "" "" ""
def e0 : Env := launch0.env 0 0 0
theorem w_frames : about1.frames = Frame.invoking theMethod args0 :: below0 := rfl
set_option maxRecDepth 65536 in
theorem w_args : argsFit about1.vm theMethod args0 = true := by decide +kernel
set_option maxRecDepth 65536 in
theorem w_heap : heapFits about1 = true := by decide +kernel
set_option maxRecDepth 65536 in
theorem w_runnable : about1.curStatus? = some .runnable := by decide +kernel
set_option maxRecDepth 65536 in
theorem w_alone : about1.alone = true := by decide +kernel
set_option maxRecDepth 65536 in
theorem w_named : about1.methodNamed? x = some theMethod := by decide +kernel
set_option maxRecDepth 65536 in
theorem w_hears : about1.hears theMethod below0 = true := by decide +kernel
set_option maxRecDepth 65536 in
theorem w_ripe : about1.ripe theMethod args0 below0 = true := by decide +kernel
theorem w_running : about1.status = .running := rfl
set_option maxRecDepth 65536 in
theorem w_room : about1.hasRoom e0.platform room_1 = true :=
  launch0.hasRoom_least _ room_1 (by decide +kernel) (by decide +kernel) (by decide +kernel) (by decide +kernel) (by decide +kernel) (by decide +kernel)
theorem allAtoms_all (ts : List Jvm.Cond) (a : Array Jvm.Value) (st : Jvm.State) : (allAtoms ts).before a st = ts.all (fun c => c.before a st) := by
  induction ts with
  | nil => rfl
  | cons c t ih =>
    show (Jvm.Cond.and c (allAtoms t)).before a st = _
    rw [Jvm.Cond.before_and, ih, List.all_cons]
def words1 : List Jvm.Cond := Jvm.Cond.code x code maxLocals ret :: tables_1
/-- a 'code' word, met by the world's own term for the bytes: nothing is compared byte by byte -/
theorem code_word {y : MethodName} {bytes : ByteArray} {mx : Nat} {rt : Option FieldType} {a : Array Value} {s : State} {m : MethodId} {meth : Method} {c : Code} (h1 : s.methodNamed? y = some m) (h2 : s.vm.method? m = some meth) (h3 : meth.code = some c) (h4 : c.code = bytes)
    (h5 : (c.maxLocals == mx && c.exceptionTable.isEmpty && decide (c.maxStack ≤ mostOperands) && decide (meth.sig.returnType = rt) && !meth.locks && decide (parseMethodDescriptor y.desc = some meth.sig)) = true) : (Jvm.Cond.code y bytes mx rt).before a s = true := by
  simp only [Bool.and_eq_true, beq_iff_eq, Bool.not_eq_true', decide_eq_true_eq] at h5
  obtain ⟨⟨⟨⟨⟨g1, g2⟩, g3⟩, g4⟩, g5⟩, g6⟩ := h5
  simp [Cond.before, Cond.holds, Cond.value, h1, h2, h3, h4, g1, g2, g3, g4, g5, g6]
def isCode : Jvm.Cond → Bool
  | .code _ _ _ _ => true
  | _ => false
theorem all_split {L : List Jvm.Cond} {P : Jvm.Cond → Bool} (h1 : L.all (fun c => isCode c || P c) = true) (h2 : ∀ c ∈ L.filter isCode, P c = true) : L.all P = true := by
  refine List.all_eq_true.mpr fun c hc => ?_
  have h := List.all_eq_true.mp h1 c hc
  rcases Bool.eq_false_or_eq_true (isCode c) with hi | hi
  · exact h2 c (List.mem_filter.mpr ⟨hc, hi⟩)
  · simpa [hi] using h
set_option maxRecDepth 65536 in
theorem w_c0 : (Jvm.Cond.code x code maxLocals ret).before args0 about1 = true := code_word (m := ⟨1, 1⟩) (meth := k1m1) (c := k1c1) (by decide +kernel) rfl rfl rfl (by decide +kernel)
set_option maxRecDepth 65536 in
theorem w_c1 : (Jvm.Cond.code ({ cls := "com/example/candid_facts/candidfacts/Truth", name := "of", desc := "(ZZ)Lcom/example/candid_facts/candidfacts/Truth;" } : Jvm.MethodName) prog_90_method_4_code (3 : Nat) (Option.some (Jvm.ClassFile.FieldType.object "com/example/candid_facts/candidfacts/Truth"))).before args0 about1 = true := code_word (m := ⟨6, 0⟩) (meth := k6m0) (c := k6c0) (by decide +kernel) rfl rfl rfl (by decide +kernel)
set_option maxRecDepth 65536 in
theorem w_c2 : (Jvm.Cond.code ({ cls := "com/example/candid_facts/candidfacts/Truth", name := "isKnownTrue", desc := "()Z" } : Jvm.MethodName) prog_90_method_5_code (1 : Nat) (Option.some Jvm.ClassFile.FieldType.boolean)).before args0 about1 = true := code_word (m := ⟨6, 1⟩) (meth := k6m1) (c := k6c1) (by decide +kernel) rfl rfl rfl (by decide +kernel)
set_option maxRecDepth 65536 in
theorem w_c3 : (Jvm.Cond.code ({ cls := "com/example/candid_facts/candidfacts/Truth", name := "isKnownFalse", desc := "()Z" } : Jvm.MethodName) prog_90_method_6_code (1 : Nat) (Option.some Jvm.ClassFile.FieldType.boolean)).before args0 about1 = true := code_word (m := ⟨6, 2⟩) (meth := k6m2) (c := k6c2) (by decide +kernel) rfl rfl rfl (by decide +kernel)
def codes1 : List Jvm.Cond := [Jvm.Cond.code x code maxLocals ret, Jvm.Cond.code ({ cls := "com/example/candid_facts/candidfacts/Truth", name := "of", desc := "(ZZ)Lcom/example/candid_facts/candidfacts/Truth;" } : Jvm.MethodName) prog_90_method_4_code (3 : Nat) (Option.some (Jvm.ClassFile.FieldType.object "com/example/candid_facts/candidfacts/Truth")), Jvm.Cond.code ({ cls := "com/example/candid_facts/candidfacts/Truth", name := "isKnownTrue", desc := "()Z" } : Jvm.MethodName) prog_90_method_5_code (1 : Nat) (Option.some Jvm.ClassFile.FieldType.boolean), Jvm.Cond.code ({ cls := "com/example/candid_facts/candidfacts/Truth", name := "isKnownFalse", desc := "()Z" } : Jvm.MethodName) prog_90_method_6_code (1 : Nat) (Option.some Jvm.ClassFile.FieldType.boolean)]
set_option maxRecDepth 65536 in
theorem codes_eq : words1.filter isCode = codes1 := rfl
theorem w_codes : ∀ c ∈ words1.filter isCode, c.before args0 about1 = true := by
  rw [codes_eq]
  intro c hc
  simp only [codes1, List.mem_cons, List.not_mem_nil, or_false] at hc
  rcases hc with rfl | rfl | rfl | rfl
  · exact w_c0
  · exact w_c1
  · exact w_c2
  · exact w_c3
set_option maxRecDepth 65536 in
theorem w_t1 : (words1.take 24).all (fun c => isCode c || c.before args0 about1) = true := by decide +kernel
set_option maxRecDepth 65536 in
theorem w_t2 : (words1.drop 24).all (fun c => isCode c || c.before args0 about1) = true := by decide +kernel
theorem w_tables : (allAtoms (Jvm.Cond.code x code maxLocals ret :: tables_1)).before args0 about1 = true := by
  rw [allAtoms_all]
  show words1.all (fun c => c.before args0 about1) = true
  refine all_split ?_ w_codes
  rw [← List.take_append_drop 24 words1, List.all_append, w_t1, w_t2]
  rfl
set_option maxRecDepth 65536 in
theorem w_case : (Jvm.Cond.and given_1 narrow_1).before args0 about1 = true := by decide +kernel
theorem w_applies : (headSpec (Jvm.Cond.code x code maxLocals ret :: tables_1) room_1).applies x e0.platform about1 = true :=
  (Spec.applies_iff w_frames).mpr ⟨w_running, w_runnable, w_alone, w_named, w_hears, w_ripe, w_room, w_tables⟩
theorem atStart : AtStart classFile x code maxLocals ret World_1 tables_1 room_1 Calls_1 rest_1 Pre_1 launch0 p0 e0 about1 theMethod args0 below0 :=
  ⟨lists_1, trivial, launch0.admits_env _ _ _, launch0.least_env, fairChoices_fair.cas, fairChoices_fair.clock, w_frames, w_args, w_heap, w_applies, trivial, trivial, w_case⟩
end start1
theorem witness_1 : WitnessClaimed_1 := ⟨start1.p0, start1.e0, start1.about1, start1.theMethod, start1.args0, start1.below0, start1.atStart⟩
end Jvm.Pilot.@@N@@
