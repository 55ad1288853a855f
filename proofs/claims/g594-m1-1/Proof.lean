import JvmDerived
import JvmDerived.Pilot.@@N@@Statement
import JvmDerived.Pilot.@@N@@Code
set_option linter.unusedVariables false
set_option linter.unusedSimpArgs false
namespace Jvm.RoadKit
open Sem ClassFile Op Lib Jvm.Stand Jvm.Free Jvm.LawKit
section Own
variable {p : Program} {l : Launch} {e : Env} {R : Room} {s : State} {m : MethodId} {args : Array Value} {below : List Frame} {meth : Method} {c : Code} {T : State} {locs : List Loc} {cells slots : Nat}
/-- from S the run comes to an end of which K holds -/
def own_Go (p : Program) (e : Env) (below : List Frame) (K : State → Outcome → Prop) (S : State) : Prop := ∃ t o, Steps p.tables e below S t ∧ t.status = .running ∧ Ended t below o ∧ K t o
def own_K (s : State) (Q : Option Value → Heap → List Loc → Prop) (k n : Nat) (t : State) (o : Outcome) : Prop := ∃ v L, o = .returned v ∧ Q v t.heap L ∧ FrameEnd s o t L k n
theorem own_go {K : State → Outcome → Prop} {S S' : State} (h : ∀ t, Steps p.tables e below S' t → Steps p.tables e below S t) (g : own_Go p e below K S') : own_Go p e below K S := by
  obtain ⟨t, o, h1, h2⟩ := g; exact ⟨t, o, h t h1, h2⟩
theorem own_via {K : State → Outcome → Prop} {S S' : State} (h : Steps p.tables e below S S') (g : own_Go p e below K S') : own_Go p e below K S := by
  obtain ⟨t, o, h1, h2⟩ := g; exact ⟨t, o, h.trans h1, h2⟩
variable {Q : Option Value → Heap → List Loc → Prop} {k n : Nat}
theorem own_end (X : Stand p l e R s m args below meth c T locs cells slots) {v : Option Value} (hlk : meth.locks = false) (hv : meth.sig.returnType = none → v = none) (hk : cells ≤ k) (hn : slots ≤ n) (hQ : Q v T.heap locs) {S : State}
    (st : ∀ fs, (∀ (f : JFrame) (acts : List Action), f.method = m → f.locked = none → f.entered = [] → (doReturn e (T.setTop f) acts v).1 = T.setFrames fs) → Steps p.tables e below S (T.setFrames fs)) : own_Go p e below (own_K s Q k n) S := by
  obtain ⟨fs, hr, hrun, hended, hW, hsame⟩ := X.leave hv hlk
  exact ⟨_, _, st fs hr, hrun, hended, v, locs, rfl, hQ, ⟨_, rfl⟩, hW, hsame.mono hk hn⟩
theorem own_ret0 (X : Stand p l e R s m args below meth c T locs cells slots) (hx : p.tables.exec = Jvm.exec) (hlk : meth.locks = false) (hret : meth.sig.returnType = none) {pc : Nat} {Ls : Array Slot} (hd : decode c.code pc = .ok (.return_, 1)) (hk : cells ≤ k) (hn : slots ≤ n) (hQ : Q none T.heap locs) :
    own_Go p e below (own_K s Q k n) (T.setTop (mkF m pc Ls [])) := own_end X hlk (fun _ => rfl) hk hn hQ fun _ hr => X.returnOut hx hret hd hr
theorem own_retN (X : Stand p l e R s m args below meth c T locs cells slots) (hx : p.tables.exec = Jvm.exec) (hlk : meth.locks = false) {t : FieldType} (hret : meth.sig.returnType = some t) (ht : t = .boolean ∨ t = .byte ∨ t = .char ∨ t = .short) {pc : Nat} {Ls : Array Slot} {z : Int32} {rest : List Value} (hd : decode c.code pc = .ok (.ireturn, 1)) (hk : cells ≤ k) (hn : slots ≤ n) (hQ : Q (some (.int (nar t z))) T.heap locs) :
    own_Go p e below (own_K s Q k n) (T.setTop (mkF m pc Ls (.int z :: rest))) := own_end X hlk (fun h => by rw [hret] at h; cases h) hk hn hQ fun _ hr => retN X hx hret ht hd hr
theorem own_retI (X : Stand p l e R s m args below meth c T locs cells slots) (hx : p.tables.exec = Jvm.exec) (hlk : meth.locks = false) (hret : meth.sig.returnType = some .int) {pc : Nat} {Ls : Array Slot} {z : Int32} {rest : List Value} (hd : decode c.code pc = .ok (.ireturn, 1)) (hk : cells ≤ k) (hn : slots ≤ n) (hQ : Q (some (.int z)) T.heap locs) :
    own_Go p e below (own_K s Q k n) (T.setTop (mkF m pc Ls (.int z :: rest))) := own_end X hlk (fun h => by rw [hret] at h; cases h) hk hn hQ fun _ hr => retOut X hx hret rfl (Or.inl ⟨rfl, Or.inl rfl, z, rfl⟩) hd hr
theorem own_retJ (X : Stand p l e R s m args below meth c T locs cells slots) (hx : p.tables.exec = Jvm.exec) (hlk : meth.locks = false) (hret : meth.sig.returnType = some .long) {pc : Nat} {Ls : Array Slot} {z : Int64} {rest : List Value} (hd : decode c.code pc = .ok (.lreturn, 1)) (hk : cells ≤ k) (hn : slots ≤ n) (hQ : Q (some (.long z)) T.heap locs) :
    own_Go p e below (own_K s Q k n) (T.setTop (mkF m pc Ls (.long z :: rest))) := own_end X hlk (fun h => by rw [hret] at h; cases h) hk hn hQ fun _ hr => retOut X hx hret rfl (Or.inr (Or.inl ⟨rfl, rfl, z, rfl⟩)) hd hr
theorem own_retR (X : Stand p l e R s m args below meth c T locs cells slots) (hx : p.tables.exec = Jvm.exec) (hlk : meth.locks = false) {t : FieldType} (hret : meth.sig.returnType = some t) (ht : t.isReference = true) {pc : Nat} {Ls : Array Slot} {w : Value} {rest : List Value} (hw : w.isRef = true) (hd : decode c.code pc = .ok (.areturn, 1)) (hk : cells ≤ k) (hn : slots ≤ n) (hQ : Q (some w) T.heap locs) :
    own_Go p e below (own_K s Q k n) (T.setTop (mkF m pc Ls (w :: rest))) := own_end X hlk (fun h => by rw [hret] at h; cases h) hk hn hQ fun _ hr => retOut X hx hret (by cases t <;> first | rfl | cases ht) (Or.inr (Or.inr (Or.inr (Or.inr ⟨rfl, ht, hw⟩)))) hd hr
section Arrays
variable {Z : State} {h : Heap} {a : Addr} {k : ClassId} {ty : FieldType} {z : Int32} {vs : List Value} {dv : Value}
theorem own_iaload (X : Stand p l e R s m args below meth c T locs cells slots) (hx : p.tables.exec = Jvm.exec) (hZ : Z.Warmed39 s.vm) (eT : T.heap = h) (F : Arv Z h a k .int z vs dv) (j : Int32) (v : Value) (hj : ¬ j < 0 ∧ j < z) (hat : vs.getD j.toNatClampNeg dv = v) {g : JFrame} (hg : g.method = m) {rest : List Value} (hs : g.stack = .int j :: .ref a :: rest) (hd : decode c.code g.pc = .ok (.iaload, 1)) {target : State}
    (hr : Steps p.tables e below (T.setTop { g with pc := g.pc + 1, stack := v :: rest }) target) : Steps p.tables e below (T.setTop g) target := by
  obtain ⟨cl, A, q, S, N, H, G⟩ := F
  have hi := inb_of S hj
  exact X.iaload hx (j := j) (v := v) (by rw [eT]; exact A.1) (State.isArrayOf_alike hZ.alike A.2.1) A.2.2 hi (Has.at H hi hat) hg hs hd _ hr
theorem own_caload (X : Stand p l e R s m args below meth c T locs cells slots) (hx : p.tables.exec = Jvm.exec) (hZ : Z.Warmed39 s.vm) (eT : T.heap = h) (F : Arv Z h a k .char z vs dv) (j : Int32) (v : Value) (hj : ¬ j < 0 ∧ j < z) (hat : vs.getD j.toNatClampNeg dv = v) {g : JFrame} (hg : g.method = m) {rest : List Value} (hs : g.stack = .int j :: .ref a :: rest) (hd : decode c.code g.pc = .ok (.caload, 1)) {target : State}
    (hr : Steps p.tables e below (T.setTop { g with pc := g.pc + 1, stack := v :: rest }) target) : Steps p.tables e below (T.setTop g) target := by
  obtain ⟨cl, A, q, S, N, H, G⟩ := F
  have hi := inb_of S hj
  exact X.caload hx (j := j) (v := v) (by rw [eT]; exact A.1) (State.isArrayOf_alike hZ.alike A.2.1) A.2.2 hi (Has.at H hi hat) hg hs hd _ hr
theorem own_saload (X : Stand p l e R s m args below meth c T locs cells slots) (hx : p.tables.exec = Jvm.exec) (hZ : Z.Warmed39 s.vm) (eT : T.heap = h) (F : Arv Z h a k .short z vs dv) (j : Int32) (v : Value) (hj : ¬ j < 0 ∧ j < z) (hat : vs.getD j.toNatClampNeg dv = v) {g : JFrame} (hg : g.method = m) {rest : List Value} (hs : g.stack = .int j :: .ref a :: rest) (hd : decode c.code g.pc = .ok (.saload, 1)) {target : State}
    (hr : Steps p.tables e below (T.setTop { g with pc := g.pc + 1, stack := v :: rest }) target) : Steps p.tables e below (T.setTop g) target := by
  obtain ⟨cl, A, q, S, N, H, G⟩ := F
  have hi := inb_of S hj
  exact X.saload hx (j := j) (v := v) (by rw [eT]; exact A.1) (State.isArrayOf_alike hZ.alike A.2.1) A.2.2 hi (Has.at H hi hat) hg hs hd _ hr
theorem own_baload (X : Stand p l e R s m args below meth c T locs cells slots) (hx : p.tables.exec = Jvm.exec) (hZ : Z.Warmed39 s.vm) (eT : T.heap = h) (F : Arv Z h a k .byte z vs dv) (j : Int32) (v : Value) (hj : ¬ j < 0 ∧ j < z) (hat : vs.getD j.toNatClampNeg dv = v) {g : JFrame} (hg : g.method = m) {rest : List Value} (hs : g.stack = .int j :: .ref a :: rest) (hd : decode c.code g.pc = .ok (.baload, 1)) {target : State}
    (hr : Steps p.tables e below (T.setTop { g with pc := g.pc + 1, stack := v :: rest }) target) : Steps p.tables e below (T.setTop g) target := by
  obtain ⟨cl, A, q, S, N, H, G⟩ := F
  have hi := inb_of S hj
  exact X.baloadBytes hx (j := j) (v := v) (by rw [eT]; exact A.1) (State.isArrayOf_alike hZ.alike A.2.1) A.2.2 hi (Has.at H hi hat) hg hs hd _ hr
theorem own_zaload (X : Stand p l e R s m args below meth c T locs cells slots) (hx : p.tables.exec = Jvm.exec) (hZ : Z.Warmed39 s.vm) (eT : T.heap = h) (F : Arv Z h a k .boolean z vs dv) (j : Int32) (v : Value) (hj : ¬ j < 0 ∧ j < z) (hat : vs.getD j.toNatClampNeg dv = v) {g : JFrame} (hg : g.method = m) {rest : List Value} (hs : g.stack = .int j :: .ref a :: rest) (hd : decode c.code g.pc = .ok (.baload, 1)) {target : State}
    (hr : Steps p.tables e below (T.setTop { g with pc := g.pc + 1, stack := v :: rest }) target) : Steps p.tables e below (T.setTop g) target := by
  obtain ⟨cl, A, q, S, N, H, G⟩ := F
  have hi := inb_of S hj
  exact X.baloadBooleans hx (j := j) (v := v) (by rw [eT]; exact A.1) (State.isArrayOf_alike hZ.alike A.2.1) A.2.2 hi (Has.at H hi hat) hg hs hd _ hr
theorem own_laload (X : Stand p l e R s m args below meth c T locs cells slots) (hx : p.tables.exec = Jvm.exec) (hZ : Z.Warmed39 s.vm) (eT : T.heap = h) (F : Arv Z h a k .long z vs dv) (j : Int32) (v : Value) (hj : ¬ j < 0 ∧ j < z) (hat : vs.getD j.toNatClampNeg dv = v) {g : JFrame} (hg : g.method = m) {rest : List Value} (hs : g.stack = .int j :: .ref a :: rest) (hd : decode c.code g.pc = .ok (.laload, 1)) {target : State}
    (hr : Steps p.tables e below (T.setTop { g with pc := g.pc + 1, stack := v :: rest }) target) : Steps p.tables e below (T.setTop g) target := by
  obtain ⟨cl, A, q, S, N, H, G⟩ := F
  have hi := inb_of S hj
  exact X.laload hx (j := j) (v := v) (by rw [eT]; exact A.1) (State.isArrayOf_alike hZ.alike A.2.1) A.2.2 hi (Has.at H hi hat) hg hs hd _ hr
theorem own_aaload (X : Stand p l e R s m args below meth c T locs cells slots) (hx : p.tables.exec = Jvm.exec) (hZ : Z.Warmed39 s.vm) (eT : T.heap = h) (F : Arv Z h a k ty z vs dv) (j : Int32) (v : Value) (hj : ¬ j < 0 ∧ j < z) (hat : vs.getD j.toNatClampNeg dv = v) (hty : ty.isReference = true) {g : JFrame} (hg : g.method = m) {rest : List Value} (hs : g.stack = .int j :: .ref a :: rest) (hd : decode c.code g.pc = .ok (.aaload, 1)) {target : State}
    (hr : Steps p.tables e below (T.setTop { g with pc := g.pc + 1, stack := v :: rest }) target) : Steps p.tables e below (T.setTop g) target := by
  obtain ⟨cl, A, q, S, N, H, G⟩ := F
  have hi := inb_of S hj
  exact X.aaload hx (j := j) (v := v) (by rw [eT]; exact A.1) (State.isArrayOf_alike hZ.alike A.2.1) hty A.2.2 hi (Has.at H hi hat) hg hs hd _ hr
theorem own_alen (X : Stand p l e R s m args below meth c T locs cells slots) (hx : p.tables.exec = Jvm.exec) (hZ : Z.Warmed39 s.vm) (eT : T.heap = h) (F : Arv Z h a k ty z vs dv) {g : JFrame} (hg : g.method = m) {rest : List Value} (hs : g.stack = .ref a :: rest) (hd : decode c.code g.pc = .ok (.arraylength, 1)) {target : State}
    (hr : Steps p.tables e below (T.setTop { g with pc := g.pc + 1, stack := .int z :: rest }) target) : Steps p.tables e below (T.setTop g) target := by
  obtain ⟨cl, A, q, S, N, -, -⟩ := F
  exact X.arraylength hx (by rw [eT]; exact A.1) (State.isArrayOf_alike hZ.alike A.2.1) hg hs hd _ (by rw [len_of S N]; exact hr)
theorem own_stI {K : State → Outcome → Prop} {n0 : Nat} (X : Stand p l e R s m args below meth c T locs cells slots) (hx : p.tables.exec = Jvm.exec) (hZ : Z.Warmed39 s.vm) (eT : T.heap = h) (F : Arv Z h a k .int z vs dv) (j : Int32) (x : Int32) (i : Nat) (hj : ¬ j < 0 ∧ j < z) (hi : j.toNatClampNeg = i) (hl : i < vs.length) (vs' : List Value) (hv : vs.set i (.int x) = vs') (N : Fr n0 locs) (ge : n0 ≤ a) {pc : Nat} {Ls : Array Slot} {rest : List Value} (hd : decode c.code pc = .ok (.iastore, 1))
    (kk : ∀ (T' : State) (h' : Heap) (L' : List Loc), Stand p l e R s m args below meth c T' L' cells slots → T'.heap = h' → Wr h h' a i (.int x) → Fr n0 L' → Arv Z h' a k .int z vs' dv → own_Go p e below K (T'.setTop (mkF m (pc + 1) Ls rest))) : own_Go p e below K (T.setTop (mkF m pc Ls (.int x :: .int j :: .ref a :: rest))) := by
  obtain ⟨cl, A, q, S, M, H, G⟩ := F
  subst hi; subst hv
  obtain ⟨T', h', X', e', W, st⟩ := stI X hx hZ eT A (j := j) (inb_of S hj) (g := mkF m pc Ls (.int x :: .int j :: .ref a :: rest)) rfl rfl hd
  exact own_go st (kk T' h' _ X' e' W (Fr.snoc X' N ge) (Arv.set A q S M H G rfl W _ rfl hl))
theorem own_stJ {K : State → Outcome → Prop} {n0 : Nat} (X : Stand p l e R s m args below meth c T locs cells slots) (hx : p.tables.exec = Jvm.exec) (hZ : Z.Warmed39 s.vm) (eT : T.heap = h) (F : Arv Z h a k .long z vs dv) (j : Int32) (x : Int64) (i : Nat) (hj : ¬ j < 0 ∧ j < z) (hi : j.toNatClampNeg = i) (hl : i < vs.length) (vs' : List Value) (hv : vs.set i (.long x) = vs') (N : Fr n0 locs) (ge : n0 ≤ a) {pc : Nat} {Ls : Array Slot} {rest : List Value} (hd : decode c.code pc = .ok (.lastore, 1))
    (kk : ∀ (T' : State) (h' : Heap) (L' : List Loc), Stand p l e R s m args below meth c T' L' cells slots → T'.heap = h' → Wr h h' a i (.long x) → Fr n0 L' → Arv Z h' a k .long z vs' dv → own_Go p e below K (T'.setTop (mkF m (pc + 1) Ls rest))) : own_Go p e below K (T.setTop (mkF m pc Ls (.long x :: .int j :: .ref a :: rest))) := by
  obtain ⟨cl, A, q, S, M, H, G⟩ := F
  subst hi; subst hv
  obtain ⟨T', h', X', e', W, st⟩ := stJ X hx hZ eT A (j := j) (inb_of S hj) (g := mkF m pc Ls (.long x :: .int j :: .ref a :: rest)) rfl rfl hd
  exact own_go st (kk T' h' _ X' e' W (Fr.snoc X' N ge) (Arv.set A q S M H G rfl W _ rfl hl))
theorem own_stB {K : State → Outcome → Prop} {n0 : Nat} (X : Stand p l e R s m args below meth c T locs cells slots) (hx : p.tables.exec = Jvm.exec) (hZ : Z.Warmed39 s.vm) (eT : T.heap = h) (F : Arv Z h a k .byte z vs dv) (j : Int32) (x x' : Int32) (i : Nat) (hj : ¬ j < 0 ∧ j < z) (hi : j.toNatClampNeg = i) (hl : i < vs.length) (hn : nar .byte x = x') (vs' : List Value) (hv : vs.set i (.int x') = vs') (N : Fr n0 locs) (ge : n0 ≤ a) {pc : Nat} {Ls : Array Slot} {rest : List Value} (hd : decode c.code pc = .ok (.bastore, 1))
    (kk : ∀ (T' : State) (h' : Heap) (L' : List Loc), Stand p l e R s m args below meth c T' L' cells slots → T'.heap = h' → Wr h h' a i (.int x') → Fr n0 L' → Arv Z h' a k .byte z vs' dv → own_Go p e below K (T'.setTop (mkF m (pc + 1) Ls rest))) : own_Go p e below K (T.setTop (mkF m pc Ls (.int x :: .int j :: .ref a :: rest))) := by
  obtain ⟨cl, A, q, S, M, H, G⟩ := F
  subst hn; subst hi; subst hv
  obtain ⟨T', h', X', e', W, st⟩ := stB X hx hZ eT A (j := j) (inb_of S hj) (g := mkF m pc Ls (.int x :: .int j :: .ref a :: rest)) rfl rfl hd
  exact own_go st (kk T' h' _ X' e' W (Fr.snoc X' N ge) (Arv.set A q S M H G (fits_nar_byte _) W _ rfl hl))
theorem own_stZ {K : State → Outcome → Prop} {n0 : Nat} (X : Stand p l e R s m args below meth c T locs cells slots) (hx : p.tables.exec = Jvm.exec) (hZ : Z.Warmed39 s.vm) (eT : T.heap = h) (F : Arv Z h a k .boolean z vs dv) (j : Int32) (x x' : Int32) (i : Nat) (hj : ¬ j < 0 ∧ j < z) (hi : j.toNatClampNeg = i) (hl : i < vs.length) (hn : nar .boolean x = x') (vs' : List Value) (hv : vs.set i (.int x') = vs') (N : Fr n0 locs) (ge : n0 ≤ a) {pc : Nat} {Ls : Array Slot} {rest : List Value} (hd : decode c.code pc = .ok (.bastore, 1))
    (kk : ∀ (T' : State) (h' : Heap) (L' : List Loc), Stand p l e R s m args below meth c T' L' cells slots → T'.heap = h' → Wr h h' a i (.int x') → Fr n0 L' → Arv Z h' a k .boolean z vs' dv → own_Go p e below K (T'.setTop (mkF m (pc + 1) Ls rest))) : own_Go p e below K (T.setTop (mkF m pc Ls (.int x :: .int j :: .ref a :: rest))) := by
  obtain ⟨cl, A, q, S, M, H, G⟩ := F
  subst hn; subst hi; subst hv
  obtain ⟨T', h', X', e', W, st⟩ := stZ X hx hZ eT A (j := j) (inb_of S hj) (g := mkF m pc Ls (.int x :: .int j :: .ref a :: rest)) rfl rfl hd
  exact own_go st (kk T' h' _ X' e' W (Fr.snoc X' N ge) (Arv.set A q S M H G (fits_nar_bool _) W _ rfl hl))
theorem own_stC {K : State → Outcome → Prop} {n0 : Nat} (X : Stand p l e R s m args below meth c T locs cells slots) (hx : p.tables.exec = Jvm.exec) (hZ : Z.Warmed39 s.vm) (eT : T.heap = h) (F : Arv Z h a k .char z vs dv) (j : Int32) (x x' : Int32) (i : Nat) (hj : ¬ j < 0 ∧ j < z) (hi : j.toNatClampNeg = i) (hl : i < vs.length) (hn : nar .char x = x') (vs' : List Value) (hv : vs.set i (.int x') = vs') (N : Fr n0 locs) (ge : n0 ≤ a) {pc : Nat} {Ls : Array Slot} {rest : List Value} (hd : decode c.code pc = .ok (.castore, 1))
    (kk : ∀ (T' : State) (h' : Heap) (L' : List Loc), Stand p l e R s m args below meth c T' L' cells slots → T'.heap = h' → Wr h h' a i (.int x') → Fr n0 L' → Arv Z h' a k .char z vs' dv → own_Go p e below K (T'.setTop (mkF m (pc + 1) Ls rest))) : own_Go p e below K (T.setTop (mkF m pc Ls (.int x :: .int j :: .ref a :: rest))) := by
  obtain ⟨cl, A, q, S, M, H, G⟩ := F
  subst hn; subst hi; subst hv
  obtain ⟨T', h', X', e', W, st⟩ := stC X hx hZ eT A (j := j) (inb_of S hj) (g := mkF m pc Ls (.int x :: .int j :: .ref a :: rest)) rfl rfl hd
  exact own_go st (kk T' h' _ X' e' W (Fr.snoc X' N ge) (Arv.set A q S M H G (fits_nar_char _) W _ rfl hl))
theorem own_stS {K : State → Outcome → Prop} {n0 : Nat} (X : Stand p l e R s m args below meth c T locs cells slots) (hx : p.tables.exec = Jvm.exec) (hZ : Z.Warmed39 s.vm) (eT : T.heap = h) (F : Arv Z h a k .short z vs dv) (j : Int32) (x x' : Int32) (i : Nat) (hj : ¬ j < 0 ∧ j < z) (hi : j.toNatClampNeg = i) (hl : i < vs.length) (hn : nar .short x = x') (vs' : List Value) (hv : vs.set i (.int x') = vs') (N : Fr n0 locs) (ge : n0 ≤ a) {pc : Nat} {Ls : Array Slot} {rest : List Value} (hd : decode c.code pc = .ok (.sastore, 1))
    (kk : ∀ (T' : State) (h' : Heap) (L' : List Loc), Stand p l e R s m args below meth c T' L' cells slots → T'.heap = h' → Wr h h' a i (.int x') → Fr n0 L' → Arv Z h' a k .short z vs' dv → own_Go p e below K (T'.setTop (mkF m (pc + 1) Ls rest))) : own_Go p e below K (T.setTop (mkF m pc Ls (.int x :: .int j :: .ref a :: rest))) := by
  obtain ⟨cl, A, q, S, M, H, G⟩ := F
  subst hn; subst hi; subst hv
  obtain ⟨T', h', X', e', W, st⟩ := stS X hx hZ eT A (j := j) (inb_of S hj) (g := mkF m pc Ls (.int x :: .int j :: .ref a :: rest)) rfl rfl hd
  exact own_go st (kk T' h' _ X' e' W (Fr.snoc X' N ge) (Arv.set A q S M H G (fits_nar_short _) W _ rfl hl))
theorem own_stR {K : State → Outcome → Prop} {n0 : Nat} (X : Stand p l e R s m args below meth c T locs cells slots) (hx : p.tables.exec = Jvm.exec) (hZ : Z.Warmed39 s.vm) (eT : T.heap = h) (F : Arv Z h a k ty z vs dv) (j : Int32) (v : Value) (i : Nat) (hj : ¬ j < 0 ∧ j < z) (hi : j.toNatClampNeg = i) (hl : i < vs.length) (sto : ∀ cl : Cell, Arr Z h a cl ty → cl.cls = k → Sto Z h a v) (hty : ty.isReference = true) (vs' : List Value) (hv : vs.set i v = vs') (N : Fr n0 locs) (ge : n0 ≤ a) {pc : Nat} {Ls : Array Slot} {rest : List Value} (hd : decode c.code pc = .ok (.aastore, 1))
    (kk : ∀ (T' : State) (h' : Heap) (L' : List Loc), Stand p l e R s m args below meth c T' L' cells slots → T'.heap = h' → Wr h h' a i v → Fr n0 L' → Arv Z h' a k ty z vs' dv → own_Go p e below K (T'.setTop (mkF m (pc + 1) Ls rest))) : own_Go p e below K (T.setTop (mkF m pc Ls (v :: .int j :: .ref a :: rest))) := by
  obtain ⟨cl, A, q, S, M, H, G⟩ := F
  subst hi; subst hv
  have so := sto cl A q
  obtain ⟨T', h', X', e', W, st⟩ := stR X hx hZ eT A (j := j) (inb_of S hj) hty so (g := mkF m pc Ls (v :: .int j :: .ref a :: rest)) rfl rfl hd
  have fv : fits ty v = true := by
    rcases so with rfl | ⟨_, _, _, _, _, _, _, y, _, _, _, _, rfl, _⟩ <;> cases ty <;> first | rfl | cases hty
  exact own_go st (kk T' h' _ X' e' W (Fr.snoc X' N ge) (Arv.set A q S M H G fv W _ rfl hl))
end Arrays
section Calls
variable {own : String} {index : Nat} {y z : MethodName} {bytes : ByteArray} {maxL : Nat} {ret : Option FieldType} {rm : Room} {W : Nat} {as' : Array Value} {Z : State} {a0 : Array Value} {h : Heap} {K : State → Outcome → Prop} {pc : Nat} {Ls : Array Slot} {argsL rest stk : List Value} {C : String} {b : Addr}
theorem own_cs (X : Stand p l e R s m args below meth c T locs cells slots) (hx : p.tables.exec = Jvm.exec) (hZ : Z.Warmed39 s.vm) (hown : s.vm.findClass own = some m.cls) (w1 : (Cond.methodLink own index y).before a0 Z = true) (w2 : (Cond.static y).before a0 Z = true) (w3 : (Cond.initialized y.cls).before a0 Z = true) (w4 : (Cond.code y bytes maxL ret).before a0 Z = true)
    (hy : y.cls ≠ "java/lang/invoke/MethodHandle" ∧ y.cls ≠ "java/lang/invoke/VarHandle")
    (hM : MetFree l y (head1 [Cond.code y bytes maxL ret] rm) (fun a U => a = as' ∧ Z.Warmed39 U.vm ∧ U.heap = h) (fun _ _ _ _ _ => True) (fun _ U o U' => ∃ v L, o = .returned v ∧ Q v U'.heap L ∧ FrameEnd U o U' L rm.cells rm.slots))
    (hf : rm.frames + 1 ≤ R.frames) (hl : W + (maxL + 11) + rm.locals ≤ R.locals) (hc : cells + rm.cells ≤ R.cells) (hs : slots + rm.slots ≤ R.slots) (eT : T.heap = h) (hsz : Ls.size = c.maxLocals) (hlen : ∀ sig, parseMethodDescriptor y.desc = some sig → argsL.length = sig.parameters.length)
    (hst : stk = argsL.reverse ++ rest) (has : argsL.toArray = as') (hW : (rest.map fun v => v.category).sum ≤ W) (hd : decode c.code pc = .ok (.invokestatic index, 3))
    (k : ∀ (v : Option Value) (T' : State) (L : List Loc), Stand p l e R s m args below meth c T' (locs ++ L) (cells + rm.cells) (slots + rm.slots) → Q v T'.heap L → own_Go p e below K (T'.setTop (mkF m (pc + 3) Ls (v.toList ++ rest)))) : own_Go p e below K (T.setTop (mkF m pc Ls stk)) := by
  obtain ⟨v, _, ⟨T', L', k', n'⟩, -, X', ⟨L, hQ, h1, h2, h3⟩, st⟩ := Jvm.LawKit.callS X hx (y := y) hown (mvT hZ w1) (mvT hZ w2) (mvT hZ w3) (mvT hZ w4) hy (backOf (W := W) hM hZ w4 w3 hf hl) (g := mkF m pc Ls stk) rfl hsz (argsL := argsL) (rest := rest) hlen hst (by show 2 * 0 + _ ≤ _; simpa using hW) hd (fun _ _ => ⟨has, eT, hc, hs⟩)
  dsimp only [Pt.U, Pt.locs, Pt.cells, Pt.slots] at X' h1 h2 h3 st hQ
  subst h1 h2 h3
  exact own_go st (k v T' L X' hQ)
theorem own_cp (X : Stand p l e R s m args below meth c T locs cells slots) (hx : p.tables.exec = Jvm.exec) (hZ : Z.Warmed39 s.vm) (hown : s.vm.findClass own = some m.cls) (hy1 : y.name = "<init>") (w1 : (Cond.methodLink own index y).before a0 Z = true) (w2 : (Cond.instanceMethod y).before a0 Z = true) (w3 : (Cond.initialized y.cls).before a0 Z = true) (w4 : (Cond.code y bytes maxL none).before a0 Z = true)
    (hy : y.cls ≠ "java/lang/invoke/MethodHandle" ∧ y.cls ≠ "java/lang/invoke/VarHandle")
    (hM : MetFree l y (head1 [Cond.code y bytes maxL none] rm) (fun a U => a = as' ∧ Z.Warmed39 U.vm ∧ U.heap = h) (fun _ _ _ _ _ => True) (fun _ U o U' => ∃ v L, o = .returned v ∧ Q v U'.heap L ∧ FrameEnd U o U' L rm.cells rm.slots))
    (hf : rm.frames + 1 ≤ R.frames) (hl : W + (maxL + 11) + rm.locals ≤ R.locals) (hc : cells + rm.cells ≤ R.cells) (hs : slots + rm.slots ≤ R.slots) (eT : T.heap = h) (hsz : Ls.size = c.maxLocals) (hlen : ∀ sig, parseMethodDescriptor y.desc = some sig → argsL.length = sig.parameters.length)
    (hst : stk = argsL.reverse ++ .ref b :: rest) (has : (.ref b :: argsL).toArray = as') (hW : (rest.map fun v => v.category).sum ≤ W) (hd : decode c.code pc = .ok (.invokespecial index, 3))
    (k : ∀ (v : Option Value) (T' : State) (L : List Loc), Stand p l e R s m args below meth c T' (locs ++ L) (cells + rm.cells) (slots + rm.slots) → Q v T'.heap L → own_Go p e below K (T'.setTop (mkF m (pc + 3) Ls (v.toList ++ rest)))) : own_Go p e below K (T.setTop (mkF m pc Ls stk)) := by
  obtain ⟨v, _, ⟨T', L', k', n'⟩, -, X', ⟨L, hQ, h1, h2, h3⟩, st⟩ := X.specialBack hx (y := y) hy1 hown (mvT hZ w1) (mvT hZ w2) (mvT hZ w4) hy (backOf (W := W) hM hZ w4 w3 hf hl) (g := mkF m pc Ls stk) rfl hsz (Steps.refl _) (a := b) (argsL := argsL) (rest := rest) hlen hst (by show 2 * 0 + _ ≤ _; simpa using hW) hd (fun _ _ => ⟨has, eT, hc, hs⟩)
  dsimp only [Pt.U, Pt.locs, Pt.cells, Pt.slots] at X' h1 h2 h3 st hQ
  subst h1 h2 h3
  exact own_via st (k v T' L X' hQ)
theorem own_cv (X : Stand p l e R s m args below meth c T locs cells slots) (hx : p.tables.exec = Jvm.exec) (hZ : Z.Warmed39 s.vm) (hown : s.vm.findClass own = some m.cls) (nf : NotFace s y) (w1 : (Cond.methodLink own index y).before a0 Z = true) (w2 : (Cond.declares y).before a0 Z = true) (w5 : (Cond.selects C y z).before a0 Z = true) (w6 : (Cond.instanceMethod z).before a0 Z = true) (w3 : (Cond.initialized z.cls).before a0 Z = true) (w4 : (Cond.code z bytes maxL ret).before a0 Z = true)
    (hy : y.cls ≠ "java/lang/invoke/MethodHandle" ∧ y.cls ≠ "java/lang/invoke/VarHandle") (E : Exa Z h b C)
    (hM : MetFree l z (head1 [Cond.code z bytes maxL ret] rm) (fun a U => a = as' ∧ Z.Warmed39 U.vm ∧ U.heap = h) (fun _ _ _ _ _ => True) (fun _ U o U' => ∃ v L, o = .returned v ∧ Q v U'.heap L ∧ FrameEnd U o U' L rm.cells rm.slots))
    (hf : rm.frames + 1 ≤ R.frames) (hl : W + (maxL + 11) + rm.locals ≤ R.locals) (hc : cells + rm.cells ≤ R.cells) (hs : slots + rm.slots ≤ R.slots) (eT : T.heap = h) (hsz : Ls.size = c.maxLocals) (hlen : ∀ sig, parseMethodDescriptor y.desc = some sig → argsL.length = sig.parameters.length)
    (hst : stk = argsL.reverse ++ .ref b :: rest) (has : (.ref b :: argsL).toArray = as') (hW : (rest.map fun v => v.category).sum ≤ W) (hd : decode c.code pc = .ok (.invokevirtual index, 3))
    (k : ∀ (v : Option Value) (T' : State) (L : List Loc), Stand p l e R s m args below meth c T' (locs ++ L) (cells + rm.cells) (slots + rm.slots) → Q v T'.heap L → own_Go p e below K (T'.setTop (mkF m (pc + 3) Ls (v.toList ++ rest)))) : own_Go p e below K (T.setTop (mkF m pc Ls stk)) := by
  obtain ⟨cq, kq, qa, qb, qc⟩ := isOf hZ eT E
  obtain ⟨v, _, ⟨T', L', k', n'⟩, -, X', ⟨L, hQ, h1, h2, h3⟩, st⟩ := X.virtualBack hx (y := y) (z := z) hown (mvT hZ w1) (mvT hZ w2) nf (mvT hZ w5) (mvT hZ w6) hy (backOf (W := W) hM hZ w4 w3 hf hl) qa qc (g := mkF m pc Ls stk) rfl hsz (Steps.refl _) (argsL := argsL) (rest := rest) hlen hst (by show 2 * 0 + _ ≤ _; simpa using hW) hd (fun _ _ => ⟨has, eT, hc, hs⟩)
  dsimp only [Pt.U, Pt.locs, Pt.cells, Pt.slots] at X' h1 h2 h3 st hQ
  subst h1 h2 h3
  exact own_via st (k v T' L X' hQ)
theorem own_cq (X : Stand p l e R s m args below meth c T locs cells slots) (hx : p.tables.exec = Jvm.exec) (hZ : Z.Warmed39 s.vm) (hown : s.vm.findClass own = some m.cls) (w1 : (Cond.methodLink own index y).before a0 Z = true) (w6 : (Cond.instanceMethod y).before a0 Z = true) (w5 : (Cond.selects y.cls y y).before a0 Z = true) (w7 : (Cond.privateMethod y).before a0 Z = true) (w3 : (Cond.initialized y.cls).before a0 Z = true) (w4 : (Cond.code y bytes maxL ret).before a0 Z = true)
    (hy : y.cls ≠ "java/lang/invoke/MethodHandle" ∧ y.cls ≠ "java/lang/invoke/VarHandle") (E : Exa Z h b C)
    (hM : MetFree l y (head1 [Cond.code y bytes maxL ret] rm) (fun a U => a = as' ∧ Z.Warmed39 U.vm ∧ U.heap = h) (fun _ _ _ _ _ => True) (fun _ U o U' => ∃ v L, o = .returned v ∧ Q v U'.heap L ∧ FrameEnd U o U' L rm.cells rm.slots))
    (hf : rm.frames + 1 ≤ R.frames) (hl : W + (maxL + 11) + rm.locals ≤ R.locals) (hc : cells + rm.cells ≤ R.cells) (hs : slots + rm.slots ≤ R.slots) (eT : T.heap = h) (hsz : Ls.size = c.maxLocals) (hlen : ∀ sig, parseMethodDescriptor y.desc = some sig → argsL.length = sig.parameters.length)
    (hst : stk = argsL.reverse ++ .ref b :: rest) (has : (.ref b :: argsL).toArray = as') (hW : (rest.map fun v => v.category).sum ≤ W) (hd : decode c.code pc = .ok (.invokevirtual index, 3))
    (k : ∀ (v : Option Value) (T' : State) (L : List Loc), Stand p l e R s m args below meth c T' (locs ++ L) (cells + rm.cells) (slots + rm.slots) → Q v T'.heap L → own_Go p e below K (T'.setTop (mkF m (pc + 3) Ls (v.toList ++ rest)))) : own_Go p e below K (T.setTop (mkF m pc Ls stk)) := by
  obtain ⟨cq, q1, q2⟩ := E.cell
  obtain ⟨v, _, ⟨T', L', k', n'⟩, -, X', ⟨L, hQ, h1, h2, h3⟩, st⟩ := X.privateBack hx (y := y) hown (mvT hZ w1) (mvT hZ w6) (mvT hZ w5) (Cond.privateMethod_at (mvP hZ w7 (args := #[]))) (mvT hZ w4) hy (backOf (W := W) hM hZ w4 w3 hf hl) (g := mkF m pc Ls stk) rfl hsz (Steps.refl _) (a := b) (by rw [eT]; exact q1) q2 (argsL := argsL) (rest := rest) hlen hst (by show 2 * 0 + _ ≤ _; simpa using hW) hd (fun _ _ => ⟨has, eT, hc, hs⟩)
  dsimp only [Pt.U, Pt.locs, Pt.cells, Pt.slots] at X' h1 h2 h3 st hQ
  subst h1 h2 h3
  exact own_via st (k v T' L X' hQ)
theorem own_cu {owner : String} (X : Stand p l e R s m args below meth c T locs cells slots) (hx : p.tables.exec = Jvm.exec) (hZ : Z.Warmed39 s.vm) (hown : s.vm.findClass own = some m.cls) (w1 : (Cond.methodLink own index y).before a0 Z = true) (w8 : (Cond.sameMethod y.cls owner y.name y.desc).before a0 Z = true) (w2 : (Cond.declares ⟨owner, y.name, y.desc⟩).before a0 Z = true) (w5 : (Cond.selects C y z).before a0 Z = true) (w6 : (Cond.instanceMethod z).before a0 Z = true) (w3 : (Cond.initialized z.cls).before a0 Z = true) (w4 : (Cond.code z bytes maxL ret).before a0 Z = true)
    (hy : owner ≠ "java/lang/invoke/MethodHandle" ∧ owner ≠ "java/lang/invoke/VarHandle") (E : Exa Z h b C)
    (hM : MetFree l z (head1 [Cond.code z bytes maxL ret] rm) (fun a U => a = as' ∧ Z.Warmed39 U.vm ∧ U.heap = h) (fun _ _ _ _ _ => True) (fun _ U o U' => ∃ v L, o = .returned v ∧ Q v U'.heap L ∧ FrameEnd U o U' L rm.cells rm.slots))
    (hf : rm.frames + 1 ≤ R.frames) (hl : W + (maxL + 11) + rm.locals ≤ R.locals) (hc : cells + rm.cells ≤ R.cells) (hs : slots + rm.slots ≤ R.slots) (eT : T.heap = h) (hsz : Ls.size = c.maxLocals) (hlen : ∀ sig, parseMethodDescriptor y.desc = some sig → argsL.length = sig.parameters.length)
    (hst : stk = argsL.reverse ++ .ref b :: rest) (has : (.ref b :: argsL).toArray = as') (hW : (rest.map fun v => v.category).sum ≤ W) (hd : decode c.code pc = .ok (.invokevirtual index, 3))
    (k : ∀ (v : Option Value) (T' : State) (L : List Loc), Stand p l e R s m args below meth c T' (locs ++ L) (cells + rm.cells) (slots + rm.slots) → Q v T'.heap L → own_Go p e below K (T'.setTop (mkF m (pc + 3) Ls (v.toList ++ rest)))) : own_Go p e below K (T.setTop (mkF m pc Ls stk)) := by
  obtain ⟨cq, kq, qa, qb, qc⟩ := isOf hZ eT E
  obtain ⟨v, _, ⟨T', L', k', n'⟩, -, X', ⟨L, hQ, h1, h2, h3⟩, st⟩ := X.virtualBackUp hx (x := y) (y := z) (owner := owner) hown (mvT hZ w1) (mvT hZ w8) (mvT hZ w2) hy (mvT hZ w5) (mvT hZ w6) (backOf (W := W) hM hZ w4 w3 hf hl) qa qc (g := mkF m pc Ls stk) rfl hsz (Steps.refl _) (argsL := argsL) (rest := rest) hlen hst (by show 2 * 0 + _ ≤ _; simpa using hW) hd (fun _ _ => ⟨has, eT, hc, hs⟩)
  dsimp only [Pt.U, Pt.locs, Pt.cells, Pt.slots] at X' h1 h2 h3 st hQ
  subst h1 h2 h3
  exact own_via st (k v T' L X' hQ)
end Calls
theorem own_fld_eq {Z : State} {h : Heap} {a : Addr} {C n d : String} {v w : Value} (F : Fld Z h a C n d v) (G : Fld Z h a C n d w) : v = w := Classical.byContradiction fun q => Fld.ne F G q rfl
theorem own_nsroot {Z : State} {a0 : Array Value} {O K : String} {n : Nat} (w : (Cond.noSuperclass O).before a0 Z = true) (wk : (Cond.instantiable K n).before a0 Z = true) (hn : O ≠ K) : NS Z O K := by
  obtain ⟨c, k, h1, h2, h3, -, -⟩ := Cond.noSuperclass_spec w
  obtain ⟨t, kt, g1, -⟩ := Cond.instantiable_spec wk
  have ne := ids_ne h1 g1 hn
  refine ⟨c, t, h1, g1, fun fuel => ?_⟩
  cases fuel with
  | zero => rfl
  | succ f => simp [Vm.isSubclassAux, ne, h2, h3]
theorem own_nsno {Z : State} {a0 : Array Value} {C S K : String} {n : Nat} (w : (Cond.superclass C S).before a0 Z = true) (wk : (Cond.instantiable K n).before a0 Z = true) (nn : NS Z C K) (hn : C ≠ K) : ∃ c t, Z.vm.findClass C = some c ∧ Z.vm.findClass K = some t ∧ Z.vm.assignable c t = false := by
  obtain ⟨c, t, h0, g0, n3⟩ := nn
  obtain ⟨p, k, kp, h1, h2, h3, h4, h5, -, h7⟩ := Cond.superclass_spec h0 w
  obtain ⟨t', kt, g1, g2, g5, g6, -⟩ := Cond.instantiable_spec wk
  cases g0.symm.trans g1
  have g7 : kt.isInterface = false := by simp only [Bool.or_eq_false_iff] at g6; exact g6.1
  have ne := ids_ne h0 g0 hn
  refine ⟨c, t, h0, g0, ?_⟩
  show Z.vm.assignableAux (255 + 1) c t = false
  simp [Vm.assignableAux, ne, h2, g2, h5, g5, g7, Vm.isSubclass, n3]
theorem own_ns_exa {Z : State} {h : Heap} {a : Addr} {C : String} (F : Exa Z h a C) : ∀ cell : Cell, h[a]? = some cell → cell.vm.isStatics = false := fun cell hc => by
  obtain ⟨c, _, h1, -, -, h4, -⟩ := F; cases h1.symm.trans hc; exact h4
theorem own_ns_arv {Z : State} {h : Heap} {a : Addr} {k : ClassId} {ty : FieldType} {z : Int32} {vs : List Value} {dv : Value} (F : Arv Z h a k ty z vs dv) : ∀ cell : Cell, h[a]? = some cell → cell.vm.isStatics = false := fun cell hc => by
  obtain ⟨c, A, -⟩ := F; cases A.1.symm.trans hc; exact A.plain
theorem own_sta_keep {Z : State} {h h' : Heap} {C f d : String} {v : Value} {ws : List Addr} (F : Sta Z h C f d v) (K : Keep h h' ws) (q : ∀ x ∈ ws, ∀ cell : Cell, h[x]? = some cell → cell.vm.isStatics = false) : Sta Z h' C f d v := by
  obtain ⟨cf, i, k, fl, st, cell, h1, h2, h3, h4, h5, h6, h7⟩ := F
  exact ⟨cf, i, k, fl, st, cell, h1, h2, h3, h4, K.2.1 _ _ h5 (fun hm => by rw [q _ hm _ h5] at h6; cases h6), h6, h7⟩
end Own
end Jvm.RoadKit
namespace Jvm.Pilot.@@N@@
open Jvm Jvm.ClassFile Sem Op Lib Jvm.Free Jvm.Stand Jvm.LawKit Jvm.RoadKit Bundle Jvm.Pilot.@@N@@.Jvm.D
theorem own_m (i : Nat) {d : Jvm.Cond} (h : tables_1[i]? = some d) : d ∈ tables_1 := List.mem_of_getElem? h
theorem own_eq_int {args : Array Value} {s first : State} {o : Option Outcome} {idx : List Nat} {t : Term} {k : Int32} (h : (Cond.eq t (.int k)).value args first o s idx = some true) : t.eval args first o idx s = some (.int k) := by
  obtain ⟨x, y, h1, h2, h3, h4⟩ := cmp_v (r := true) (Or.inl h)
  have e2 : y = .int k := (Option.some.inj h2).symm
  subst e2
  obtain ⟨z, rfl⟩ := h4
  have q := h
  simp only [Cond.value, h1, h2] at q
  have : z = k := by simpa using q
  rw [h1, this]
theorem own_eq_ref {args : Array Value} {s first : State} {o : Option Outcome} {idx : List Nat} {t u : Term} {a : Addr} (hu : u.eval args first o idx s = some (.ref a)) (h : (Cond.eq t u).value args first o s idx = some true) : t.eval args first o idx s = some (.ref a) := by
  obtain ⟨x, y, h1, h2, h3, h4⟩ := cmp_v (r := true) (Or.inl h)
  cases hu.symm.trans h2
  have q := h
  simp only [Cond.value, h1, h2] at q
  cases x <;> simp [Kin, Value.isRef] at h3 h4 q ⊢
  rw [h1, q]
def own_sp (x : Int32) : Int32 := if x = 32 ∨ x = 9 ∨ x = 13 ∨ x = 10 then 1 else 0
def own_exp (x : Int32) : Int32 := if x < 64 then (if lcmpW (((1 : Int64) <<< (x &&& 0x3f).toInt64) &&& 4294977024) 0 = 0 then 0 else 1) else 0
theorem own_low : ∀ n : Fin 64, own_sp (Int32.ofNat n) = own_exp (Int32.ofNat n) := by decide +kernel
theorem own_same (x : Int32) (h : 0 ≤ x.toInt) : own_sp x = own_exp x := by
  by_cases c : x.toInt < 64
  · have e : x = Int32.ofNat x.toInt.toNat := by
      apply Int32.toInt_inj.mp
      rw [Int32.toInt_ofNat_of_lt (by omega)]
      omega
    have q := own_low ⟨x.toInt.toNat, by omega⟩
    simp only at q
    rw [← e] at q
    exact q
  · have h1 : ¬ x < 64 := by rw [Int32.lt_iff_toInt_lt]; simp; omega
    have e2 : own_exp x = 0 := by simp [own_exp, h1]
    have e1 : own_sp x = 0 := by
      simp only [own_sp, ← Int32.toInt_inj, Int32.reduceToInt]
      rw [if_neg (by omega)] <;> first | rfl | decide
    rw [e1, e2]

theorem own_d_prog_64_method_23_code_0 : decode prog_64_method_23_code 0 = .ok (.iload_n 0, 1) := by decide +kernel
theorem own_d_prog_64_method_23_code_1 : decode prog_64_method_23_code 1 = .ok (.bipush 32, 2) := by decide +kernel
theorem own_d_prog_64_method_23_code_3 : decode prog_64_method_23_code 3 = .ok (.if_icmp .eq 21, 3) := by decide +kernel
theorem own_d_prog_64_method_23_code_24 : decode prog_64_method_23_code 24 = .ok (.iconst 1, 1) := by decide +kernel
theorem own_d_prog_64_method_23_code_25 : decode prog_64_method_23_code 25 = .ok (.goto 4, 3) := by decide +kernel
theorem own_d_prog_64_method_23_code_29 : decode prog_64_method_23_code 29 = .ok (.ireturn, 1) := by decide +kernel
theorem own_d_prog_64_method_23_code_6 : decode prog_64_method_23_code 6 = .ok (.iload_n 0, 1) := by decide +kernel
theorem own_d_prog_64_method_23_code_7 : decode prog_64_method_23_code 7 = .ok (.bipush 9, 2) := by decide +kernel
theorem own_d_prog_64_method_23_code_9 : decode prog_64_method_23_code 9 = .ok (.if_icmp .eq 15, 3) := by decide +kernel
theorem own_d_prog_64_method_23_code_12 : decode prog_64_method_23_code 12 = .ok (.iload_n 0, 1) := by decide +kernel
theorem own_d_prog_64_method_23_code_13 : decode prog_64_method_23_code 13 = .ok (.bipush 13, 2) := by decide +kernel
theorem own_d_prog_64_method_23_code_15 : decode prog_64_method_23_code 15 = .ok (.if_icmp .eq 9, 3) := by decide +kernel
theorem own_d_prog_64_method_23_code_18 : decode prog_64_method_23_code 18 = .ok (.iload_n 0, 1) := by decide +kernel
theorem own_d_prog_64_method_23_code_19 : decode prog_64_method_23_code 19 = .ok (.bipush 10, 2) := by decide +kernel
theorem own_d_prog_64_method_23_code_21 : decode prog_64_method_23_code 21 = .ok (.if_icmp .ne 7, 3) := by decide +kernel
theorem own_d_prog_64_method_23_code_28 : decode prog_64_method_23_code 28 = .ok (.iconst 0, 1) := by decide +kernel
theorem own_pn_com_example_ruleweave_ruleweave_XmlDocuments : plainName "com/example/ruleweave/ruleweave/XmlDocuments" = true := by first | (simp [plainName, overriddenIn]; done) | decide +kernel
def Q_sp (Z : State) (x : Int32) (h0 : Heap) (n0 : Nat) (v : Option Value) (h : Heap) (L : List Loc) : Prop := v = some (.int (own_sp x)) ∧ Fr n0 L ∧ h = h0
set_option maxRecDepth 65536 in
set_option maxHeartbeats 40000000 in
theorem rm_sp (l : Launch) (Z : State) (a0 : Array Value) (hw : ∀ d ∈ tables_1, d.before a0 Z = true) (ws : List Jvm.Cond) (x : Int32) (h0 : Heap) (n0 : Nat) (Z0 : n0 ≤ h0.size) :
    MetFree l (⟨"com/example/ruleweave/ruleweave/XmlDocuments", "isXmlSpace", "(C)Z"⟩ : MethodName) (head1 (Jvm.Cond.code (⟨"com/example/ruleweave/ruleweave/XmlDocuments", "isXmlSpace", "(C)Z"⟩ : MethodName) prog_64_method_23_code 1 (some .boolean) :: ws) ({ frames := 0, cells := 0, slots := 0, locals := 0 } : Room)) (fun aA U => aA = #[(.int x)] ∧ Z.Warmed39 U.vm ∧ U.heap = h0) (fun _ _ _ _ _ => True) (fun _ U o U' => ∃ v L, o = .returned v ∧ Q_sp Z x h0 n0 v U'.heap L ∧ FrameEnd U o U' L ({ frames := 0, cells := 0, slots := 0, locals := 0 } : Room).cells ({ frames := 0, cells := 0, slots := 0, locals := 0 } : Room).slots) := by
  refine MetFree.of_bodySF (plainFor_of_name own_pn_com_example_ruleweave_ruleweave_XmlDocuments) hisR ?_
  intro p e s m args below meth c s₁ Bd hml0 hP hK
  obtain ⟨rfl, hZ, hh⟩ := hP
  have hx := Bd.exec
  have hby := Bd.bytes
  have hlk : meth.locks = false := BodyLoose.notSynchronized Bd
  have hml : c.maxLocals = 1 := hml0
  have hown : s.vm.findClass "com/example/ruleweave/ruleweave/XmlDocuments" = some m.cls := findClass_of_methodNamed Bd.named
  have hnm := (name_of_methodNamed Bd.named Bd.method).1
  have X0 : Stand p l e ({ frames := 0, cells := 0, slots := 0, locals := 0 } : Room) s m #[(.int x)] below meth c s₁ [] 0 0 := Stand.of_body Bd
  have e0 : s₁.heap = h0 := by rw [← hh, Bd.state]; rfl
  have N0 := Fr.nil n0
  show own_Go p e below (own_K s (Q_sp Z x h0 n0) ({ frames := 0, cells := 0, slots := 0, locals := 0 } : Room).cells ({ frames := 0, cells := 0, slots := 0, locals := 0 } : Room).slots) (s₁.setTop (entryFrame m #[(.int x)] 1))
  rw [(by first | (simp [entryFrame, mkF, argsToLocals, Value.category]; done) | rfl : entryFrame m #[(.int x)] 1 = mkF m 0 #[.val (.int x)] [])]
  show own_Go p e below _ (s₁.setTop (mkF m 0 #[.val (.int x)] []))
  refine own_go (fun _ hr => XS.iloadN X0.here hx rfl (hb hby own_d_prog_64_method_23_code_0) rfl (XS.bipush X0.here hx rfl (hb hby own_d_prog_64_method_23_code_1) hr)) ?_
  show own_Go p e below _ (s₁.setTop (mkF m 3 #[.val (.int x)] [(.int (32 : Int32)), (.int x)]))
  by_cases c1 : x = (32 : Int32)
  · refine own_go (fun _ hr => XS.icmpYes X0.here hx rfl (pc0 := 3) (pc' := 24) rfl (hb hby own_d_prog_64_method_23_code_3) rfl (teq c1).1 (by decide) (by decide) hr) ?_
    show own_Go p e below _ (s₁.setTop (mkF m 24 #[.val (.int x)] []))
    refine own_go (fun _ hr => XS.iconst X0.here hx rfl (hb hby own_d_prog_64_method_23_code_24) (XS.goto X0.here hx rfl (pc0 := 25) (pc' := 29) rfl (hb hby own_d_prog_64_method_23_code_25) (by decide) (by decide) hr)) ?_
    show own_Go p e below _ (s₁.setTop (mkF m 29 #[.val (.int x)] [(.int (1 : Int32))]))
    exact own_retN X0 hx hlk Bd.returns (t := .boolean) (by simp) (hb hby own_d_prog_64_method_23_code_29) (by decide) (by decide) ⟨(show some (Value.int (1 : Int32)) = some (Value.int (own_sp x)) by simp [own_sp, c1]), N0, e0⟩
  refine own_go (fun _ hr => XS.icmpNo X0.here hx rfl (hb hby own_d_prog_64_method_23_code_3) rfl (feq c1).1 hr) ?_
  show own_Go p e below _ (s₁.setTop (mkF m 6 #[.val (.int x)] []))
  refine own_go (fun _ hr => XS.iloadN X0.here hx rfl (hb hby own_d_prog_64_method_23_code_6) rfl (XS.bipush X0.here hx rfl (hb hby own_d_prog_64_method_23_code_7) hr)) ?_
  show own_Go p e below _ (s₁.setTop (mkF m 9 #[.val (.int x)] [(.int (9 : Int32)), (.int x)]))
  by_cases c2 : x = (9 : Int32)
  · refine own_go (fun _ hr => XS.icmpYes X0.here hx rfl (pc0 := 9) (pc' := 24) rfl (hb hby own_d_prog_64_method_23_code_9) rfl (teq c2).1 (by decide) (by decide) hr) ?_
    show own_Go p e below _ (s₁.setTop (mkF m 24 #[.val (.int x)] []))
    refine own_go (fun _ hr => XS.iconst X0.here hx rfl (hb hby own_d_prog_64_method_23_code_24) (XS.goto X0.here hx rfl (pc0 := 25) (pc' := 29) rfl (hb hby own_d_prog_64_method_23_code_25) (by decide) (by decide) hr)) ?_
    show own_Go p e below _ (s₁.setTop (mkF m 29 #[.val (.int x)] [(.int (1 : Int32))]))
    exact own_retN X0 hx hlk Bd.returns (t := .boolean) (by simp) (hb hby own_d_prog_64_method_23_code_29) (by decide) (by decide) ⟨(show some (Value.int (1 : Int32)) = some (Value.int (own_sp x)) by simp [own_sp, c1, c2]), N0, e0⟩
  refine own_go (fun _ hr => XS.icmpNo X0.here hx rfl (hb hby own_d_prog_64_method_23_code_9) rfl (feq c2).1 hr) ?_
  show own_Go p e below _ (s₁.setTop (mkF m 12 #[.val (.int x)] []))
  refine own_go (fun _ hr => XS.iloadN X0.here hx rfl (hb hby own_d_prog_64_method_23_code_12) rfl (XS.bipush X0.here hx rfl (hb hby own_d_prog_64_method_23_code_13) hr)) ?_
  show own_Go p e below _ (s₁.setTop (mkF m 15 #[.val (.int x)] [(.int (13 : Int32)), (.int x)]))
  by_cases c3 : x = (13 : Int32)
  · refine own_go (fun _ hr => XS.icmpYes X0.here hx rfl (pc0 := 15) (pc' := 24) rfl (hb hby own_d_prog_64_method_23_code_15) rfl (teq c3).1 (by decide) (by decide) hr) ?_
    show own_Go p e below _ (s₁.setTop (mkF m 24 #[.val (.int x)] []))
    refine own_go (fun _ hr => XS.iconst X0.here hx rfl (hb hby own_d_prog_64_method_23_code_24) (XS.goto X0.here hx rfl (pc0 := 25) (pc' := 29) rfl (hb hby own_d_prog_64_method_23_code_25) (by decide) (by decide) hr)) ?_
    show own_Go p e below _ (s₁.setTop (mkF m 29 #[.val (.int x)] [(.int (1 : Int32))]))
    exact own_retN X0 hx hlk Bd.returns (t := .boolean) (by simp) (hb hby own_d_prog_64_method_23_code_29) (by decide) (by decide) ⟨(show some (Value.int (1 : Int32)) = some (Value.int (own_sp x)) by simp [own_sp, c1, c2, c3]), N0, e0⟩
  refine own_go (fun _ hr => XS.icmpNo X0.here hx rfl (hb hby own_d_prog_64_method_23_code_15) rfl (feq c3).1 hr) ?_
  show own_Go p e below _ (s₁.setTop (mkF m 18 #[.val (.int x)] []))
  refine own_go (fun _ hr => XS.iloadN X0.here hx rfl (hb hby own_d_prog_64_method_23_code_18) rfl (XS.bipush X0.here hx rfl (hb hby own_d_prog_64_method_23_code_19) hr)) ?_
  show own_Go p e below _ (s₁.setTop (mkF m 21 #[.val (.int x)] [(.int (10 : Int32)), (.int x)]))
  by_cases c4 : x = (10 : Int32)
  · refine own_go (fun _ hr => XS.icmpNo X0.here hx rfl (hb hby own_d_prog_64_method_23_code_21) rfl (teq c4).2 hr) ?_
    show own_Go p e below _ (s₁.setTop (mkF m 24 #[.val (.int x)] []))
    refine own_go (fun _ hr => XS.iconst X0.here hx rfl (hb hby own_d_prog_64_method_23_code_24) (XS.goto X0.here hx rfl (pc0 := 25) (pc' := 29) rfl (hb hby own_d_prog_64_method_23_code_25) (by decide) (by decide) hr)) ?_
    show own_Go p e below _ (s₁.setTop (mkF m 29 #[.val (.int x)] [(.int (1 : Int32))]))
    exact own_retN X0 hx hlk Bd.returns (t := .boolean) (by simp) (hb hby own_d_prog_64_method_23_code_29) (by decide) (by decide) ⟨(show some (Value.int (1 : Int32)) = some (Value.int (own_sp x)) by simp [own_sp, c1, c2, c3, c4]), N0, e0⟩
  refine own_go (fun _ hr => XS.icmpYes X0.here hx rfl (pc0 := 21) (pc' := 28) rfl (hb hby own_d_prog_64_method_23_code_21) rfl (feq c4).2 (by decide) (by decide) hr) ?_
  show own_Go p e below _ (s₁.setTop (mkF m 28 #[.val (.int x)] []))
  refine own_go (fun _ hr => XS.iconst X0.here hx rfl (hb hby own_d_prog_64_method_23_code_28) hr) ?_
  show own_Go p e below _ (s₁.setTop (mkF m 29 #[.val (.int x)] [(.int (0 : Int32))]))
  exact own_retN X0 hx hlk Bd.returns (t := .boolean) (by simp) (hb hby own_d_prog_64_method_23_code_29) (by decide) (by decide) ⟨(show some (Value.int (0 : Int32)) = some (Value.int (own_sp x)) by simp [own_sp, c1, c2, c3, c4]), N0, e0⟩
theorem own_pd0 : parseMethodDescriptor "(C)Z" = some ⟨[.char], some .boolean⟩ := by decide +kernel
theorem own_pn_com_example_ruleweave_ruleweave_XmlDocumentsIsXmlSpacePinLaw : plainName "com/example/ruleweave/ruleweave/XmlDocumentsIsXmlSpacePinLaw" = true := by first | (simp [plainName, overriddenIn]; done) | decide +kernel
def Q_law (Z : State) (h0 : Heap) (n0 : Nat) (v : Option Value) (h : Heap) (L : List Loc) : Prop := v = some (.int 1) ∧ Fr n0 L
set_option maxRecDepth 65536 in
set_option maxHeartbeats 40000000 in
theorem rm_law (l : Launch) (Z : State) (a0 : Array Value) (hw : ∀ d ∈ tables_1, d.before a0 Z = true) (ws : List Jvm.Cond) (x0 : Int32) (sel : Int32) (h0 : Heap) (n0 : Nat) (Z0 : n0 ≤ h0.size) :
    MetFree l x (head1 (Jvm.Cond.code x code maxLocals ret :: ws) room_1) (fun aA U => aA = #[(.int x0), (.int sel)] ∧ Z.Warmed39 U.vm ∧ U.heap = h0) (fun _ _ _ _ _ => True) (fun _ U o U' => ∃ v L, o = .returned v ∧ Q_law Z h0 n0 v U'.heap L ∧ FrameEnd U o U' L room_1.cells room_1.slots) := by
  refine MetFree.of_bodySF (plainFor_of_name own_pn_com_example_ruleweave_ruleweave_XmlDocumentsIsXmlSpacePinLaw) hisR ?_
  intro p e s m args below meth c s₁ Bd hml0 hP hK
  obtain ⟨rfl, hZ, hh⟩ := hP
  have hx := Bd.exec
  have hby := Bd.bytes
  have hlk : meth.locks = false := BodyLoose.notSynchronized Bd
  have hml : c.maxLocals = 6 := hml0
  have hown : s.vm.findClass "com/example/ruleweave/ruleweave/XmlDocumentsIsXmlSpacePinLaw" = some m.cls := findClass_of_methodNamed Bd.named
  have hnm := (name_of_methodNamed Bd.named Bd.method).1
  have X0 : Stand p l e room_1 s m #[(.int x0), (.int sel)] below meth c s₁ [] 0 0 := Stand.of_body Bd
  have e0 : s₁.heap = h0 := by rw [← hh, Bd.state]; rfl
  have N0 := Fr.nil n0
  show own_Go p e below (own_K s (Q_law Z h0 n0) room_1.cells room_1.slots) (s₁.setTop (entryFrame m #[(.int x0), (.int sel)] maxLocals))
  rw [(by first | (simp [entryFrame, mkF, argsToLocals, Value.category, maxLocals]; done) | rfl : entryFrame m #[(.int x0), (.int sel)] maxLocals = mkF m 0 #[.val (.int x0), .val (.int sel), .unset, .unset, .unset, .unset] [])]
  show own_Go p e below _ (s₁.setTop (mkF m 0 #[.val (.int x0), .val (.int sel), .unset, .unset, .unset, .unset] []))
  have j1 : ∀ (u : Int32), 0 ≤ u.toInt → own_Go p e below (own_K s (Q_law Z h0 n0) room_1.cells room_1.slots) (s₁.setTop (mkF m 21 #[.val (.int x0), .val (.int sel), .val (.int u), .unset, .unset, .unset] [])) := by
    intro u hj1
    show own_Go p e below _ (s₁.setTop (mkF m 21 #[.val (.int x0), .val (.int sel), .val (.int u), .unset, .unset, .unset] []))
    refine own_go (X0.ldc2Long hx hown (mvT hZ (hw _ (own_m 0 rfl))) rfl (hb hby at_21)) ?_
    show own_Go p e below _ (s₁.setTop (mkF m 24 #[.val (.int x0), .val (.int sel), .val (.int u), .unset, .unset, .unset] [(.long (4294977024 : Int64))]))
    refine own_go (fun _ hr => XS.lstoreN X0.here hx rfl (hb hby at_24) rfl (l' := #[.val (.int x0), .val (.int sel), .val (.int u), .val (.long (4294977024 : Int64)), .second, .unset]) rfl (XS.iloadN X0.here hx rfl (hb hby at_25) rfl (XS.bipush X0.here hx rfl (hb hby at_26) hr))) ?_
    show own_Go p e below _ (s₁.setTop (mkF m 28 #[.val (.int x0), .val (.int sel), .val (.int u), .val (.long (4294977024 : Int64)), .second, .unset] [(.int (64 : Int32)), (.int u)]))
    by_cases c2 : u < (64 : Int32)
    · refine own_go (fun _ hr => XS.icmpNo X0.here hx rfl (hb hby at_28) rfl (tlt c2).2.1 hr) ?_
      show own_Go p e below _ (s₁.setTop (mkF m 31 #[.val (.int x0), .val (.int sel), .val (.int u), .val (.long (4294977024 : Int64)), .second, .unset] []))
      refine own_go (fun _ hr => XS.lconst X0.here hx rfl (hb hby at_31) (XS.iloadN X0.here hx rfl (hb hby at_32) rfl (XS.lshl X0.here hx rfl (hb hby at_33) rfl (XS.lloadN X0.here hx rfl (hb hby at_34) rfl (XS.land X0.here hx rfl (hb hby at_35) rfl (XS.lconst X0.here hx rfl (hb hby at_36) (XS.lcmp X0.here hx rfl (hb hby at_37) rfl hr))))))) ?_
      show own_Go p e below _ (s₁.setTop (mkF m 38 #[.val (.int x0), .val (.int sel), .val (.int u), .val (.long (4294977024 : Int64)), .second, .unset] [(.int (lcmpW (((1 : Int64) <<< (u &&& 0x3f).toInt64) &&& (4294977024 : Int64)) (0 : Int64)))]))
      by_cases c3 : (lcmpW (((1 : Int64) <<< (u &&& 0x3f).toInt64) &&& (4294977024 : Int64)) (0 : Int64)) = (0 : Int32)
      · refine own_go (fun _ hr => XS.ifYes X0.here hx rfl (pc0 := 38) (pc' := 45) rfl (hb hby at_38) rfl ((if0 _ _).trans (teq c3).1) (by decide) (by decide) hr) ?_
        show own_Go p e below _ (s₁.setTop (mkF m 45 #[.val (.int x0), .val (.int sel), .val (.int u), .val (.long (4294977024 : Int64)), .second, .unset] []))
        refine own_go (fun _ hr => XS.iconst X0.here hx rfl (hb hby at_45) (XS.istore X0.here hx rfl (hb hby at_46) rfl (l' := #[.val (.int x0), .val (.int sel), .val (.int u), .val (.long (4294977024 : Int64)), .second, .val (.int (0 : Int32))]) rfl (XS.iloadN X0.here hx rfl (hb hby at_48) rfl hr))) ?_
        show own_Go p e below _ (s₁.setTop (mkF m 49 #[.val (.int x0), .val (.int sel), .val (.int u), .val (.long (4294977024 : Int64)), .second, .val (.int (0 : Int32))] [(.int u)]))
        refine own_cs X0 hx hZ hown (hw _ (own_m 1 rfl)) (hw _ (own_m 2 rfl)) (hw _ (own_m 3 rfl)) (hw _ (own_m 4 rfl)) (by decide) (rm := { frames := 0, cells := 0, slots := 0, locals := 0 }) (rm_sp l Z a0 hw [] u h0 n0 Z0 ) (by decide) (W := 0) (by decide) (by decide) (by decide) e0 (by rw [hml]; rfl) (argsL := [(.int u)]) (lenOf own_pd0 rfl) (rest := []) rfl rfl (Nat.le_of_eq rfl) (hb hby at_49) ?_
        intro _ T4 L4 X4 hQ4
        obtain ⟨rfl, N4q, e4⟩ := hQ4
        have N4 := Fr.app N0 N4q
        show own_Go p e below _ (T4.setTop (mkF m 52 #[.val (.int x0), .val (.int sel), .val (.int u), .val (.long (4294977024 : Int64)), .second, .val (.int (0 : Int32))] [(.int (own_sp u))]))
        refine own_go (fun _ hr => XS.iload X4.here hx rfl (hb hby at_52) rfl hr) ?_
        show own_Go p e below _ (T4.setTop (mkF m 54 #[.val (.int x0), .val (.int sel), .val (.int u), .val (.long (4294977024 : Int64)), .second, .val (.int (0 : Int32))] [(.int (0 : Int32)), (.int (own_sp u))]))
        have c5 : (own_sp u) = (0 : Int32) := (own_same u hj1).trans (by unfold own_exp; rw [if_pos c2, if_pos c3])
        refine own_go (fun _ hr => XS.icmpNo X4.here hx rfl (hb hby at_54) rfl (teq c5).2 hr) ?_
        show own_Go p e below _ (T4.setTop (mkF m 57 #[.val (.int x0), .val (.int sel), .val (.int u), .val (.long (4294977024 : Int64)), .second, .val (.int (0 : Int32))] []))
        refine own_go (fun _ hr => XS.iconst X4.here hx rfl (hb hby at_57) (XS.goto X4.here hx rfl (pc0 := 58) (pc' := 62) rfl (hb hby at_58) (by decide) (by decide) hr)) ?_
        show own_Go p e below _ (T4.setTop (mkF m 62 #[.val (.int x0), .val (.int sel), .val (.int u), .val (.long (4294977024 : Int64)), .second, .val (.int (0 : Int32))] [(.int (1 : Int32))]))
        exact own_retN X4 hx hlk Bd.returns (t := .boolean) (by simp) (hb hby at_62) (by decide) (by decide) ⟨rfl, N4⟩
      refine own_go (fun _ hr => XS.ifNo X0.here hx rfl (hb hby at_38) rfl ((if0 _ _).trans (feq c3).1) hr) ?_
      show own_Go p e below _ (s₁.setTop (mkF m 41 #[.val (.int x0), .val (.int sel), .val (.int u), .val (.long (4294977024 : Int64)), .second, .unset] []))
      refine own_go (fun _ hr => XS.iconst X0.here hx rfl (hb hby at_41) (XS.goto X0.here hx rfl (pc0 := 42) (pc' := 46) rfl (hb hby at_42) (by decide) (by decide) (XS.istore X0.here hx rfl (hb hby at_46) rfl (l' := #[.val (.int x0), .val (.int sel), .val (.int u), .val (.long (4294977024 : Int64)), .second, .val (.int (1 : Int32))]) rfl (XS.iloadN X0.here hx rfl (hb hby at_48) rfl hr)))) ?_
      show own_Go p e below _ (s₁.setTop (mkF m 49 #[.val (.int x0), .val (.int sel), .val (.int u), .val (.long (4294977024 : Int64)), .second, .val (.int (1 : Int32))] [(.int u)]))
      refine own_cs X0 hx hZ hown (hw _ (own_m 1 rfl)) (hw _ (own_m 2 rfl)) (hw _ (own_m 3 rfl)) (hw _ (own_m 4 rfl)) (by decide) (rm := { frames := 0, cells := 0, slots := 0, locals := 0 }) (rm_sp l Z a0 hw [] u h0 n0 Z0 ) (by decide) (W := 0) (by decide) (by decide) (by decide) e0 (by rw [hml]; rfl) (argsL := [(.int u)]) (lenOf own_pd0 rfl) (rest := []) rfl rfl (Nat.le_of_eq rfl) (hb hby at_49) ?_
      intro _ T6 L6 X6 hQ6
      obtain ⟨rfl, N6q, e6⟩ := hQ6
      have N6 := Fr.app N0 N6q
      show own_Go p e below _ (T6.setTop (mkF m 52 #[.val (.int x0), .val (.int sel), .val (.int u), .val (.long (4294977024 : Int64)), .second, .val (.int (1 : Int32))] [(.int (own_sp u))]))
      refine own_go (fun _ hr => XS.iload X6.here hx rfl (hb hby at_52) rfl hr) ?_
      show own_Go p e below _ (T6.setTop (mkF m 54 #[.val (.int x0), .val (.int sel), .val (.int u), .val (.long (4294977024 : Int64)), .second, .val (.int (1 : Int32))] [(.int (1 : Int32)), (.int (own_sp u))]))
      have c7 : (own_sp u) = (1 : Int32) := (own_same u hj1).trans (by unfold own_exp; rw [if_pos c2, if_neg c3])
      refine own_go (fun _ hr => XS.icmpNo X6.here hx rfl (hb hby at_54) rfl (teq c7).2 hr) ?_
      show own_Go p e below _ (T6.setTop (mkF m 57 #[.val (.int x0), .val (.int sel), .val (.int u), .val (.long (4294977024 : Int64)), .second, .val (.int (1 : Int32))] []))
      refine own_go (fun _ hr => XS.iconst X6.here hx rfl (hb hby at_57) (XS.goto X6.here hx rfl (pc0 := 58) (pc' := 62) rfl (hb hby at_58) (by decide) (by decide) hr)) ?_
      show own_Go p e below _ (T6.setTop (mkF m 62 #[.val (.int x0), .val (.int sel), .val (.int u), .val (.long (4294977024 : Int64)), .second, .val (.int (1 : Int32))] [(.int (1 : Int32))]))
      exact own_retN X6 hx hlk Bd.returns (t := .boolean) (by simp) (hb hby at_62) (by decide) (by decide) ⟨rfl, N6⟩
    refine own_go (fun _ hr => XS.icmpYes X0.here hx rfl (pc0 := 28) (pc' := 45) rfl (hb hby at_28) rfl (flt c2).2.1 (by decide) (by decide) hr) ?_
    show own_Go p e below _ (s₁.setTop (mkF m 45 #[.val (.int x0), .val (.int sel), .val (.int u), .val (.long (4294977024 : Int64)), .second, .unset] []))
    refine own_go (fun _ hr => XS.iconst X0.here hx rfl (hb hby at_45) (XS.istore X0.here hx rfl (hb hby at_46) rfl (l' := #[.val (.int x0), .val (.int sel), .val (.int u), .val (.long (4294977024 : Int64)), .second, .val (.int (0 : Int32))]) rfl (XS.iloadN X0.here hx rfl (hb hby at_48) rfl hr))) ?_
    show own_Go p e below _ (s₁.setTop (mkF m 49 #[.val (.int x0), .val (.int sel), .val (.int u), .val (.long (4294977024 : Int64)), .second, .val (.int (0 : Int32))] [(.int u)]))
    refine own_cs X0 hx hZ hown (hw _ (own_m 1 rfl)) (hw _ (own_m 2 rfl)) (hw _ (own_m 3 rfl)) (hw _ (own_m 4 rfl)) (by decide) (rm := { frames := 0, cells := 0, slots := 0, locals := 0 }) (rm_sp l Z a0 hw [] u h0 n0 Z0 ) (by decide) (W := 0) (by decide) (by decide) (by decide) e0 (by rw [hml]; rfl) (argsL := [(.int u)]) (lenOf own_pd0 rfl) (rest := []) rfl rfl (Nat.le_of_eq rfl) (hb hby at_49) ?_
    intro _ T8 L8 X8 hQ8
    obtain ⟨rfl, N8q, e8⟩ := hQ8
    have N8 := Fr.app N0 N8q
    show own_Go p e below _ (T8.setTop (mkF m 52 #[.val (.int x0), .val (.int sel), .val (.int u), .val (.long (4294977024 : Int64)), .second, .val (.int (0 : Int32))] [(.int (own_sp u))]))
    refine own_go (fun _ hr => XS.iload X8.here hx rfl (hb hby at_52) rfl hr) ?_
    show own_Go p e below _ (T8.setTop (mkF m 54 #[.val (.int x0), .val (.int sel), .val (.int u), .val (.long (4294977024 : Int64)), .second, .val (.int (0 : Int32))] [(.int (0 : Int32)), (.int (own_sp u))]))
    have c9 : (own_sp u) = (0 : Int32) := (own_same u hj1).trans (by unfold own_exp; rw [if_neg c2])
    refine own_go (fun _ hr => XS.icmpNo X8.here hx rfl (hb hby at_54) rfl (teq c9).2 hr) ?_
    show own_Go p e below _ (T8.setTop (mkF m 57 #[.val (.int x0), .val (.int sel), .val (.int u), .val (.long (4294977024 : Int64)), .second, .val (.int (0 : Int32))] []))
    refine own_go (fun _ hr => XS.iconst X8.here hx rfl (hb hby at_57) (XS.goto X8.here hx rfl (pc0 := 58) (pc' := 62) rfl (hb hby at_58) (by decide) (by decide) hr)) ?_
    show own_Go p e below _ (T8.setTop (mkF m 62 #[.val (.int x0), .val (.int sel), .val (.int u), .val (.long (4294977024 : Int64)), .second, .val (.int (0 : Int32))] [(.int (1 : Int32))]))
    exact own_retN X8 hx hlk Bd.returns (t := .boolean) (by simp) (hb hby at_62) (by decide) (by decide) ⟨rfl, N8⟩
  refine own_go (fun _ hr => XS.iloadN X0.here hx rfl (hb hby at_0) rfl (XS.iconst X0.here hx rfl (hb hby at_1) (XS.iand X0.here hx rfl (hb hby at_2) rfl hr))) ?_
  show own_Go p e below _ (s₁.setTop (mkF m 3 #[.val (.int x0), .val (.int sel), .unset, .unset, .unset, .unset] [(.int (sel &&& (1 : Int32)))]))
  by_cases c10 : (sel &&& (1 : Int32)) = (0 : Int32)
  · refine own_go (fun _ hr => XS.ifYes X0.here hx rfl (pc0 := 3) (pc' := 15) rfl (hb hby at_3) rfl ((if0 _ _).trans (teq c10).1) (by decide) (by decide) hr) ?_
    show own_Go p e below _ (s₁.setTop (mkF m 15 #[.val (.int x0), .val (.int sel), .unset, .unset, .unset, .unset] []))
    refine own_go (fun _ hr => XS.iloadN X0.here hx rfl (hb hby at_15) rfl hr) ?_
    show own_Go p e below _ (s₁.setTop (mkF m 16 #[.val (.int x0), .val (.int sel), .unset, .unset, .unset, .unset] [(.int x0)]))
    refine own_go (X0.ldcInt hx hown (mvT hZ (hw _ (own_m 5 rfl))) rfl (hb hby at_16)) ?_
    show own_Go p e below _ (s₁.setTop (mkF m 18 #[.val (.int x0), .val (.int sel), .unset, .unset, .unset, .unset] [(.int (65535 : Int32)), (.int x0)]))
    refine own_go (fun _ hr => XS.iand X0.here hx rfl (hb hby at_18) rfl (XS.i2c X0.here hx rfl (hb hby at_19) rfl (XS.istoreN X0.here hx rfl (hb hby at_20) rfl (l' := #[.val (.int x0), .val (.int sel), .val (.int ((x0 &&& (65535 : Int32)).toUInt32.toUInt16.toUInt32.toInt32)), .unset, .unset, .unset]) rfl hr))) ?_
    show own_Go p e below _ (s₁.setTop (mkF m 21 #[.val (.int x0), .val (.int sel), .val (.int ((x0 &&& (65535 : Int32)).toUInt32.toUInt16.toUInt32.toInt32)), .unset, .unset, .unset] []))
    exact j1 ((x0 &&& (65535 : Int32)).toUInt32.toUInt16.toUInt32.toInt32) (by exact (c_i2c _).2.1)
  refine own_go (fun _ hr => XS.ifNo X0.here hx rfl (hb hby at_3) rfl ((if0 _ _).trans (feq c10).1) hr) ?_
  show own_Go p e below _ (s₁.setTop (mkF m 6 #[.val (.int x0), .val (.int sel), .unset, .unset, .unset, .unset] []))
  refine own_go (fun _ hr => XS.iloadN X0.here hx rfl (hb hby at_6) rfl (XS.bipush X0.here hx rfl (hb hby at_7) (XS.iand X0.here hx rfl (hb hby at_9) rfl (XS.i2c X0.here hx rfl (hb hby at_10) rfl (XS.istoreN X0.here hx rfl (hb hby at_11) rfl (l' := #[.val (.int x0), .val (.int sel), .val (.int ((x0 &&& (63 : Int32)).toUInt32.toUInt16.toUInt32.toInt32)), .unset, .unset, .unset]) rfl (XS.goto X0.here hx rfl (pc0 := 12) (pc' := 21) rfl (hb hby at_12) (by decide) (by decide) hr)))))) ?_
  show own_Go p e below _ (s₁.setTop (mkF m 21 #[.val (.int x0), .val (.int sel), .val (.int ((x0 &&& (63 : Int32)).toUInt32.toUInt16.toUInt32.toInt32)), .unset, .unset, .unset] []))
  exact j1 ((x0 &&& (63 : Int32)).toUInt32.toUInt16.toUInt32.toInt32) (by exact (c_i2c _).2.1)
set_option maxRecDepth 65536 in
set_option maxHeartbeats 40000000 in
theorem comes_1 {Post : Tables → Env → Array Value → State → Outcome → State → Prop} (hpost : ∀ tb e args s v u, (limb_1_1.after args s (.returned v) u = true ∧ limb_1_2.after args s (.returned v) u = true ∧ True) → FrameEnd s (.returned v) u (Jvm.fieldLocs frame_1_writes args s ++ Jvm.arrayLocs frame_1_arrays args s ++ Jvm.staticLocs frame_1_statics s) 0 0 → Post tb e args s (.returned v) u) :
    ArmFor flags0 classFile x code maxLocals ret World_1 tables_1 room_1 Calls_1 rest_1 Pre_1 Post := by
  intro l hfl _ _ p e ha hc hk s m args below hf hA hF happ hP
  obtain ⟨hcalls, hrest, hpre⟩ := hP
  obtain ⟨-, -, -, hnamed, -, -, -, hat⟩ := (Spec.applies_iff hf).mp happ
  obtain ⟨hg, hn⟩ := and_e (Cond.before_iff.mp (show (Jvm.Cond.and given_1 narrow_1).before args s = true from hpre))
  obtain ⟨g1, g2⟩ := and_e hg
  obtain ⟨g3, g4⟩ := and_e g2
  obtain ⟨w0, w1, rfl⟩ : ∃ w0 w1 : Value, args = #[w0, w1] := by
    have hs : args.size = 2 := by simpa [Cond.value, given_1] using g1
    obtain ⟨L⟩ := args
    match L, hs with
    | [w0, w1], _ => exact ⟨w0, w1, rfl⟩
  have hw := fun d (hd : d ∈ tables_1) => atoms_spec (ws := Jvm.Cond.code x code maxLocals ret :: tables_1) hat d (List.mem_cons_of_mem _ hd)
  have hfit : Fit s := fun {y c} hc i hi => by
    obtain ⟨ha, rfl⟩ := Array.getElem?_eq_some_iff.mp hc
    have q := List.all_eq_true.mp ((Array.all_eq_true_iff_forall_mem.mp hF) _ (Array.getElem_mem ha)) i (List.mem_range.mpr hi)
    simpa [Array.getElem?_eq_getElem hi] using q
  obtain ⟨i0, ei0⟩ := is_v g3
  obtain rfl : w0 = (.int i0) := Option.some.inj ei0
  obtain ⟨i1, ei1⟩ := is_v g4
  obtain rfl : w1 = (.int i1) := Option.some.inj ei1
  obtain ⟨n, o, h1, h2, h3, _, L, rfl, ⟨rfl, N⟩, hq⟩ := rm_law l s _ hw tables_1 i0 i1 s.heap s.heap.size (Nat.le_refl _)  p e ha hc hk s m _ below hf ((Spec.applies_iff_loose hf).mp happ).1 ⟨rfl, State.Warmed39.refl s, rfl⟩ trivial
  refine ⟨n, _, h1, h2, h3, hpost _ _ _ _ _ _ ⟨Cond.after_iff.mpr rfl, Cond.after_iff.mpr (eq_i res_at (Term.int_eval (1)) rfl), trivial⟩ ⟨hq.1, hq.2.1, (hq.2.2.sift fun y hy => Or.inr (N y hy)).mono (by decide) (by decide)⟩⟩
theorem main_1_1 : Claimed_1_1 := comes_1 fun _ _ _ _ _ _ h hF => ⟨h.1, hF⟩
theorem main_1_2 : Claimed_1_2 := comes_1 fun _ _ _ _ _ _ h hF => ⟨h.2.1, hF⟩
end Jvm.Pilot.@@N@@
namespace Jvm.Pilot.@@N@@
open Jvm Jvm.ClassFile Sem Op Lib Jvm.Free Jvm.Stand Jvm.Pilot.@@N@@.Jvm.D
/-! MADE BY PROGRAM (witnessworld.py) out of the Statement's table words and the real class files: 9 classes; the members and pool entries that the words name. The judged class is class 1, her method 1. -/
namespace start1
open Jvm.ClassFile
def u (s : String) : CpInfo := .utf8 (stringToUtf16 s)
/-- a pool by its gaps: so many unusable entries, then the entry; so many at the end -/
def gap : Nat → List CpInfo → List CpInfo
  | 0, r => r
  | n + 1, r => .unusable :: gap n r
def poolList (es : List (Nat × CpInfo)) (last : Nat) : List CpInfo := es.foldr (fun e r => gap e.1 (e.2 :: r)) (gap last [])
def pool (es : List (Nat × CpInfo)) (last : Nat) : Array CpInfo := ⟨poolList es last⟩
def fileOf (pool : Array CpInfo) (this : Nat) (attrs : Array Attribute := #[]) (ms : Array MethodInfo := #[]) (fl : Nat := 33) (sup : Nat := 0) (ifs : Array Nat := #[]) (fds : Array FieldInfo := #[]) : ClassFile where
  minorVersion := 0
  majorVersion := 65
  constantPool := pool
  accessFlags := fl
  thisClass := this
  superClass := sup
  interfaces := ifs
  fields := fds
  methods := ms
  attributes := attrs
def plain (name : String) (sup : Option ClassId) : Class where
  name := name
  kind := .ordinary
  loader := none
  accessFlags := 33
  super := sup
  interfaces := #[]
  cf := none
  fields := #[]
  methods := #[]
  instanceTypes := #[]
  staticTypes := #[]
  resolved := #[]
  callSites := []
  init := .initialized
  statics := none
  mirror := none

def pool0 : Array CpInfo := pool [(5, u "<init>"), (0, u "()V"), (1, .class_ 10), (1, u "java/lang/Object")] 113

def k0m0 : Method := { name := "<init>", desc := "()V", sig := { parameters := [], returnType := none }, accessFlags := 1, code := none }
/-- java/lang/Object -/
def k0 : Class := { plain "java/lang/Object" none with
  accessFlags := 33
  interfaces := #[]
  cf := some (fileOf pool0 8 #[] #[{ accessFlags := 1, nameIndex := 5, descriptorIndex := 6, attributes := #[] }] 33 0 #[] #[])
  fields := #[]
  methods := #[k0m0]
  instanceTypes := #[]
  staticTypes := #[]
  resolved := Array.replicate 124 none
  statics := none }

def pool1 : Array CpInfo := pool [(2, .class_ 4), (1, u "java/lang/Object"), (0, u "<init>"), (0, u "()V"), (0, .integer 65535), (0, .long 4294977024), (1, .methodref 11 12), (0, .class_ 13), (0, .nameAndType 14 15), (0, u "com/example/ruleweave/ruleweave/XmlDocuments"), (0, u "isXmlSpace"), (0, u "(C)Z"), (0, .class_ 17), (0, u "com/example/ruleweave/ruleweave/XmlDocumentsIsXmlSpacePinLaw"), (2, u "law"), (0, u "(II)Z")] 3

def k1m0 : Method := { name := "<init>", desc := "()V", sig := { parameters := [], returnType := none }, accessFlags := 2, code := none }
def k1c1 : Code := { maxStack := 4, maxLocals := 6, code := code, exceptionTable := #[], attributes := #[] }
def k1m1 : Method := { name := "law", desc := "(II)Z", sig := { parameters := [.int, .int], returnType := some .boolean }, accessFlags := 9, code := some k1c1 }
/-- com/example/ruleweave/ruleweave/XmlDocumentsIsXmlSpacePinLaw -/
def k1 : Class := { plain "com/example/ruleweave/ruleweave/XmlDocumentsIsXmlSpacePinLaw" (some 0) with
  accessFlags := 49
  interfaces := #[]
  cf := some (fileOf pool1 16 #[] #[{ accessFlags := 2, nameIndex := 5, descriptorIndex := 6, attributes := #[] }, { accessFlags := 9, nameIndex := 20, descriptorIndex := 21, attributes := #[] }] 49 2 #[] #[])
  fields := #[]
  methods := #[k1m0, k1m1]
  instanceTypes := #[]
  staticTypes := #[]
  resolved := Array.replicate 25 none
  statics := none }

def pool2 : Array CpInfo := pool [(4, .class_ 6), (1, u "java/lang/Object"), (0, u "<init>"), (0, u "()V"), (0, .class_ 10), (0, u "com/example/ruleweave/ruleweave/XmlDocuments$Reader"), (5, .class_ 17), (0, u "com/example/ruleweave/ruleweave/XmlDocuments$TreeBuilder"), (13, .class_ 32), (0, u "com/example/ruleweave/ruleweave/XmlDocuments"), (66, .class_ 101), (1, u "com/example/ruleweave/ruleweave/XmlDocuments$AsRead"), (204, u "isXmlSpace"), (0, u "(C)Z"), (34, u "UNTRUSTED_FEATURES"), (0, u "Ljava/util/List;"), (22, u "NO_EXTERNAL_ACCESS"), (16, u "EVERY_ERROR_THROWS"), (0, u "Lorg/xml/sax/ErrorHandler;"), (18, u "AS_READ"), (0, u "Ljava/lang/String;"), (72, .class_ 478), (0, u "com/example/ruleweave/ruleweave/XmlDocuments$1"), (5, u "XSD_NAMESPACE"), (6, u "LEXICAL_HANDLER"), (2, u "CANNOT_HARDEN")] 84

def k2m0 : Method := { name := "<init>", desc := "()V", sig := { parameters := [], returnType := none }, accessFlags := 2, code := none }
def k2c1 : Code := { maxStack := 2, maxLocals := 1, code := prog_64_method_23_code, exceptionTable := #[], attributes := #[] }
def k2m1 : Method := { name := "isXmlSpace", desc := "(C)Z", sig := { parameters := [.char], returnType := some .boolean }, accessFlags := 8, code := some k2c1 }
/-- com/example/ruleweave/ruleweave/XmlDocuments -/
def k2 : Class := { plain "com/example/ruleweave/ruleweave/XmlDocuments" (some 0) with
  accessFlags := 48
  interfaces := #[]
  cf := some (fileOf pool2 31 #[.nestMembers #[99, 16, 9, 477]] #[{ accessFlags := 2, nameIndex := 7, descriptorIndex := 8, attributes := #[] }, { accessFlags := 8, nameIndex := 306, descriptorIndex := 307, attributes := #[] }] 48 4 #[] #[{ accessFlags := 24, nameIndex := 484, descriptorIndex := 404, attributes := #[] }, { accessFlags := 26, nameIndex := 342, descriptorIndex := 343, attributes := #[] }, { accessFlags := 26, nameIndex := 366, descriptorIndex := 343, attributes := #[] }, { accessFlags := 26, nameIndex := 383, descriptorIndex := 384, attributes := #[] }, { accessFlags := 26, nameIndex := 491, descriptorIndex := 404, attributes := #[] }, { accessFlags := 26, nameIndex := 403, descriptorIndex := 404, attributes := #[] }, { accessFlags := 26, nameIndex := 494, descriptorIndex := 404, attributes := #[] }])
  fields := #[{ name := "XSD_NAMESPACE", type := (.object "java/lang/String"), accessFlags := 24, slot := 0, constantValue := 0 }, { name := "UNTRUSTED_FEATURES", type := (.object "java/util/List"), accessFlags := 26, slot := 1, constantValue := 0 }, { name := "NO_EXTERNAL_ACCESS", type := (.object "java/util/List"), accessFlags := 26, slot := 2, constantValue := 0 }, { name := "EVERY_ERROR_THROWS", type := (.object "org/xml/sax/ErrorHandler"), accessFlags := 26, slot := 3, constantValue := 0 }, { name := "LEXICAL_HANDLER", type := (.object "java/lang/String"), accessFlags := 26, slot := 4, constantValue := 0 }, { name := "AS_READ", type := (.object "java/lang/String"), accessFlags := 26, slot := 5, constantValue := 0 }, { name := "CANNOT_HARDEN", type := (.object "java/lang/String"), accessFlags := 26, slot := 6, constantValue := 0 }]
  methods := #[k2m0, k2m1]
  instanceTypes := #[]
  staticTypes := #[(.object "java/lang/String"), (.object "java/util/List"), (.object "java/util/List"), (.object "org/xml/sax/ErrorHandler"), (.object "java/lang/String"), (.object "java/lang/String"), (.object "java/lang/String")]
  resolved := Array.replicate 579 none
  statics := none }

def pool3 : Array CpInfo := pool [(1, u "java/lang/Cloneable"), (0, .class_ 1), (0, u "java/lang/Object"), (0, .class_ 3)] 3

/-- java/lang/Cloneable -/
def k3 : Class := { plain "java/lang/Cloneable" (some 0) with
  accessFlags := 1537
  interfaces := #[]
  cf := some (fileOf pool3 2 #[] #[] 1537 4 #[] #[])
  fields := #[]
  methods := #[]
  instanceTypes := #[]
  staticTypes := #[]
  resolved := Array.replicate 8 none
  statics := none }

def pool4 : Array CpInfo := pool [(1, u "java/io/Serializable"), (0, .class_ 1), (0, u "java/lang/Object"), (0, .class_ 3)] 3

/-- java/io/Serializable -/
def k4 : Class := { plain "java/io/Serializable" (some 0) with
  accessFlags := 1537
  interfaces := #[]
  cf := some (fileOf pool4 2 #[] #[] 1537 4 #[] #[])
  fields := #[]
  methods := #[]
  instanceTypes := #[]
  staticTypes := #[]
  resolved := Array.replicate 8 none
  statics := none }

/-- the primitive byte -/
def k5 : Class := { plain "byte" none with kind := .primitive 'B', accessFlags := 0x411 }
/-- [B -/
def k6 : Class := { plain "[B" (some 0) with kind := .array 5 .byte, interfaces := #[3, 4], accessFlags := 1041 }

/-- the primitive int -/
def k7 : Class := { plain "int" none with kind := .primitive 'I', accessFlags := 0x411 }
/-- [I -/
def k8 : Class := { plain "[I" (some 0) with kind := .array 7 .int, interfaces := #[3, 4], accessFlags := 1041 }

def heap : Heap := #[]
def classes : Array Class := #[k0, k1, k2, k3, k4, k5, k6, k7, k8]
def interned : List (Array UInt16 × Addr) := []
def slotsUsed : Nat := 0
def theMethod : MethodId := ⟨1, 1⟩
def args0 : Array Value := #[.int 5, .int 5]
def aboutOver (below : List Frame) : State where
  vm := { classes := classes, interned := interned.toArray }
  heap := heap
  slotsUsed := slotsUsed
  threads := #[{ frames := .invoking theMethod args0 :: below }]
def below0 : List Frame := [.native { method := ⟨0, 0⟩, args := #[] }]
def about1 : State := aboutOver below0
def p0 : Program := .bare "" "" ""
def e0 : Env := launch0.env 0 0 0
theorem w_frames : about1.frames = Frame.invoking theMethod args0 :: below0 := rfl
set_option maxRecDepth 65536 in
theorem w_args : argsFit about1.vm theMethod args0 = true := by decide +kernel
set_option maxRecDepth 65536 in
theorem w_heap : heapFits about1 = true := by decide +kernel
set_option maxRecDepth 65536 in
theorem w_runnable : about1.curStatus? = some .runnable := by decide +kernel
set_option maxRecDepth 65536 in
theorem w_alone : about1.alone = true := by decide +kernel
set_option maxRecDepth 65536 in
theorem w_named : about1.methodNamed? x = some theMethod := by decide +kernel
set_option maxRecDepth 65536 in
theorem w_hears : about1.hears theMethod below0 = true := by decide +kernel
set_option maxRecDepth 65536 in
theorem w_ripe : about1.ripe theMethod args0 below0 = true := by decide +kernel
theorem w_running : about1.status = .running := rfl
set_option maxRecDepth 65536 in
theorem w_room : about1.hasRoom e0.platform room_1 = true :=
  launch0.hasRoom_least _ room_1 (by decide +kernel) (by decide +kernel) (by decide +kernel) (by decide +kernel) (by decide +kernel) (by decide +kernel)
theorem allAtoms_all (ts : List Jvm.Cond) (a : Array Jvm.Value) (st : Jvm.State) : (allAtoms ts).before a st = ts.all (fun c => c.before a st) := by
  induction ts with
  | nil => rfl
  | cons c t ih =>
    show (Jvm.Cond.and c (allAtoms t)).before a st = _
    rw [Jvm.Cond.before_and, ih, List.all_cons]
def words1 : List Jvm.Cond := Jvm.Cond.code x code maxLocals ret :: tables_1
/-- a 'code' word, met by the world's own term for the bytes: nothing is compared byte by byte -/
theorem code_word {y : MethodName} {bytes : ByteArray} {mx : Nat} {rt : Option FieldType} {a : Array Value} {s : State} {m : MethodId} {meth : Method} {c : Code} (h1 : s.methodNamed? y = some m) (h2 : s.vm.method? m = some meth) (h3 : meth.code = some c) (h4 : c.code = bytes)
    (h5 : (c.maxLocals == mx && c.exceptionTable.isEmpty && decide (c.maxStack ≤ mostOperands) && decide (meth.sig.returnType = rt) && !meth.locks && decide (parseMethodDescriptor y.desc = some meth.sig)) = true) : (Jvm.Cond.code y bytes mx rt).before a s = true := by
  simp only [Bool.and_eq_true, beq_iff_eq, Bool.not_eq_true', decide_eq_true_eq] at h5
  obtain ⟨⟨⟨⟨⟨g1, g2⟩, g3⟩, g4⟩, g5⟩, g6⟩ := h5
  simp [Cond.before, Cond.holds, Cond.value, h1, h2, h3, h4, g1, g2, g3, g4, g5, g6]
def isCode : Jvm.Cond → Bool
  | .code _ _ _ _ => true
  | _ => false
theorem all_split {L : List Jvm.Cond} {P : Jvm.Cond → Bool} (h1 : L.all (fun c => isCode c || P c) = true) (h2 : ∀ c ∈ L.filter isCode, P c = true) : L.all P = true := by
  refine List.all_eq_true.mpr fun c hc => ?_
  have h := List.all_eq_true.mp h1 c hc
  rcases Bool.eq_false_or_eq_true (isCode c) with hi | hi
  · exact h2 c (List.mem_filter.mpr ⟨hc, hi⟩)
  · simpa [hi] using h
set_option maxRecDepth 65536 in
theorem w_c0 : (Jvm.Cond.code x code maxLocals ret).before args0 about1 = true := code_word (m := ⟨1, 1⟩) (meth := k1m1) (c := k1c1) (by decide +kernel) rfl rfl rfl (by decide +kernel)
set_option maxRecDepth 65536 in
theorem w_c1 : (Jvm.Cond.code ({ cls := "com/example/ruleweave/ruleweave/XmlDocuments", name := "isXmlSpace", desc := "(C)Z" } : Jvm.MethodName) prog_64_method_23_code (1 : Nat) (Option.some Jvm.ClassFile.FieldType.boolean)).before args0 about1 = true := code_word (m := ⟨2, 1⟩) (meth := k2m1) (c := k2c1) (by decide +kernel) rfl rfl rfl (by decide +kernel)
def codes1 : List Jvm.Cond := [Jvm.Cond.code x code maxLocals ret, Jvm.Cond.code ({ cls := "com/example/ruleweave/ruleweave/XmlDocuments", name := "isXmlSpace", desc := "(C)Z" } : Jvm.MethodName) prog_64_method_23_code (1 : Nat) (Option.some Jvm.ClassFile.FieldType.boolean)]
set_option maxRecDepth 65536 in
theorem codes_eq : words1.filter isCode = codes1 := rfl
theorem w_codes : ∀ c ∈ words1.filter isCode, c.before args0 about1 = true := by
  rw [codes_eq]
  intro c hc
  simp only [codes1, List.mem_cons, List.not_mem_nil, or_false] at hc
  rcases hc with rfl | rfl
  · exact w_c0
  · exact w_c1
set_option maxRecDepth 65536 in
theorem w_t1 : words1.all (fun c => isCode c || c.before args0 about1) = true := by decide +kernel
theorem w_tables : (allAtoms (Jvm.Cond.code x code maxLocals ret :: tables_1)).before args0 about1 = true := by
  rw [allAtoms_all]
  show words1.all (fun c => c.before args0 about1) = true
  refine all_split ?_ w_codes
  rw [w_t1]
set_option maxRecDepth 65536 in
theorem w_case : (Jvm.Cond.and given_1 narrow_1).before args0 about1 = true := by decide +kernel
theorem w_applies : (headSpec (Jvm.Cond.code x code maxLocals ret :: tables_1) room_1).applies x e0.platform about1 = true :=
  (Spec.applies_iff w_frames).mpr ⟨w_running, w_runnable, w_alone, w_named, w_hears, w_ripe, w_room, w_tables⟩
theorem atStart : AtStart classFile x code maxLocals ret World_1 tables_1 room_1 Calls_1 rest_1 Pre_1 launch0 p0 e0 about1 theMethod args0 below0 :=
  ⟨lists_1, trivial, launch0.admits_env _ _ _, launch0.least_env, fairChoices_fair.cas, fairChoices_fair.clock, w_frames, w_args, w_heap, w_applies, trivial, trivial, w_case⟩
end start1
theorem witness_1 : WitnessClaimed_1 := ⟨start1.p0, start1.e0, start1.about1, start1.theMethod, start1.args0, start1.below0, start1.atStart⟩
end Jvm.Pilot.@@N@@
