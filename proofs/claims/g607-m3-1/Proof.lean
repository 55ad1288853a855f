import JvmDerived
import JvmDerived.Pilot.@@N@@Statement
import JvmDerived.Pilot.@@N@@Code
set_option linter.unusedVariables false
set_option linter.unusedSimpArgs false
namespace Jvm.RoadKit
open Sem ClassFile Op Lib Jvm.Stand Jvm.Free Jvm.LawKit
section Own
variable {p : Program} {l : Launch} {e : Env} {R : Room} {s : State} {m : MethodId} {args : Array Value} {below : List Frame} {meth : Method} {c : Code} {T : State} {locs : List Loc} {cells slots : Nat}
/-- from S the run comes to an end of which K holds -/
def own_Go (p : Program) (e : Env) (below : List Frame) (K : State → Outcome → Prop) (S : State) : Prop := ∃ t o, Steps p.tables e below S t ∧ t.status = .running ∧ Ended t below o ∧ K t o
def own_K (s : State) (Q : Option Value → Heap → List Loc → Prop) (k n : Nat) (t : State) (o : Outcome) : Prop := ∃ v L, o = .returned v ∧ Q v t.heap L ∧ FrameEnd s o t L k n
theorem own_go {K : State → Outcome → Prop} {S S' : State} (h : ∀ t, Steps p.tables e below S' t → Steps p.tables e below S t) (g : own_Go p e below K S') : own_Go p e below K S := by
  obtain ⟨t, o, h1, h2⟩ := g; exact ⟨t, o, h t h1, h2⟩
theorem own_via {K : State → Outcome → Prop} {S S' : State} (h : Steps p.tables e below S S') (g : own_Go p e below K S') : own_Go p e below K S := by
  obtain ⟨t, o, h1, h2⟩ := g; exact ⟨t, o, h.trans h1, h2⟩
variable {Q : Option Value → Heap → List Loc → Prop} {k n : Nat}
theorem own_end (X : Stand p l e R s m args below meth c T locs cells slots) {v : Option Value} (hlk : meth.locks = false) (hv : meth.sig.returnType = none → v = none) (hk : cells ≤ k) (hn : slots ≤ n) (hQ : Q v T.heap locs) {S : State}
    (st : ∀ fs, (∀ (f : JFrame) (acts : List Action), f.method = m → f.locked = none → f.entered = [] → (doReturn e (T.setTop f) acts v).1 = T.setFrames fs) → Steps p.tables e below S (T.setFrames fs)) : own_Go p e below (own_K s Q k n) S := by
  obtain ⟨fs, hr, hrun, hended, hW, hsame⟩ := X.leave hv hlk
  exact ⟨_, _, st fs hr, hrun, hended, v, locs, rfl, hQ, ⟨_, rfl⟩, hW, hsame.mono hk hn⟩
theorem own_ret0 (X : Stand p l e R s m args below meth c T locs cells slots) (hx : p.tables.exec = Jvm.exec) (hlk : meth.locks = false) (hret : meth.sig.returnType = none) {pc : Nat} {Ls : Array Slot} (hd : decode c.code pc = .ok (.return_, 1)) (hk : cells ≤ k) (hn : slots ≤ n) (hQ : Q none T.heap locs) :
    own_Go p e below (own_K s Q k n) (T.setTop (mkF m pc Ls [])) := own_end X hlk (fun _ => rfl) hk hn hQ fun _ hr => X.returnOut hx hret hd hr
theorem own_retN (X : Stand p l e R s m args below meth c T locs cells slots) (hx : p.tables.exec = Jvm.exec) (hlk : meth.locks = false) {t : FieldType} (hret : meth.sig.returnType = some t) (ht : t = .boolean ∨ t = .byte ∨ t = .char ∨ t = .short) {pc : Nat} {Ls : Array Slot} {z : Int32} {rest : List Value} (hd : decode c.code pc = .ok (.ireturn, 1)) (hk : cells ≤ k) (hn : slots ≤ n) (hQ : Q (some (.int (nar t z))) T.heap locs) :
    own_Go p e below (own_K s Q k n) (T.setTop (mkF m pc Ls (.int z :: rest))) := own_end X hlk (fun h => by rw [hret] at h; cases h) hk hn hQ fun _ hr => retN X hx hret ht hd hr
theorem own_retI (X : Stand p l e R s m args below meth c T locs cells slots) (hx : p.tables.exec = Jvm.exec) (hlk : meth.locks = false) (hret : meth.sig.returnType = some .int) {pc : Nat} {Ls : Array Slot} {z : Int32} {rest : List Value} (hd : decode c.code pc = .ok (.ireturn, 1)) (hk : cells ≤ k) (hn : slots ≤ n) (hQ : Q (some (.int z)) T.heap locs) :
    own_Go p e below (own_K s Q k n) (T.setTop (mkF m pc Ls (.int z :: rest))) := own_end X hlk (fun h => by rw [hret] at h; cases h) hk hn hQ fun _ hr => retOut X hx hret rfl (Or.inl ⟨rfl, Or.inl rfl, z, rfl⟩) hd hr
theorem own_retJ (X : Stand p l e R s m args below meth c T locs cells slots) (hx : p.tables.exec = Jvm.exec) (hlk : meth.locks = false) (hret : meth.sig.returnType = some .long) {pc : Nat} {Ls : Array Slot} {z : Int64} {rest : List Value} (hd : decode c.code pc = .ok (.lreturn, 1)) (hk : cells ≤ k) (hn : slots ≤ n) (hQ : Q (some (.long z)) T.heap locs) :
    own_Go p e below (own_K s Q k n) (T.setTop (mkF m pc Ls (.long z :: rest))) := own_end X hlk (fun h => by rw [hret] at h; cases h) hk hn hQ fun _ hr => retOut X hx hret rfl (Or.inr (Or.inl ⟨rfl, rfl, z, rfl⟩)) hd hr
theorem own_retR (X : Stand p l e R s m args below meth c T locs cells slots) (hx : p.tables.exec = Jvm.exec) (hlk : meth.locks = false) {t : FieldType} (hret : meth.sig.returnType = some t) (ht : t.isReference = true) {pc : Nat} {Ls : Array Slot} {w : Value} {rest : List Value} (hw : w.isRef = true) (hd : decode c.code pc = .ok (.areturn, 1)) (hk : cells ≤ k) (hn : slots ≤ n) (hQ : Q (some w) T.heap locs) :
    own_Go p e below (own_K s Q k n) (T.setTop (mkF m pc Ls (w :: rest))) := own_end X hlk (fun h => by rw [hret] at h; cases h) hk hn hQ fun _ hr => retOut X hx hret (by cases t <;> first | rfl | cases ht) (Or.inr (Or.inr (Or.inr (Or.inr ⟨rfl, ht, hw⟩)))) hd hr
section Arrays
variable {Z : State} {h : Heap} {a : Addr} {k : ClassId} {ty : FieldType} {z : Int32} {vs : List Value} {dv : Value}
theorem own_iaload (X : Stand p l e R s m args below meth c T locs cells slots) (hx : p.tables.exec = Jvm.exec) (hZ : Z.Warmed39 s.vm) (eT : T.heap = h) (F : Arv Z h a k .int z vs dv) (j : Int32) (v : Value) (hj : ¬ j < 0 ∧ j < z) (hat : vs.getD j.toNatClampNeg dv = v) {g : JFrame} (hg : g.method = m) {rest : List Value} (hs : g.stack = .int j :: .ref a :: rest) (hd : decode c.code g.pc = .ok (.iaload, 1)) {target : State}
    (hr : Steps p.tables e below (T.setTop { g with pc := g.pc + 1, stack := v :: rest }) target) : Steps p.tables e below (T.setTop g) target := by
  obtain ⟨cl, A, q, S, N, H, G⟩ := F
  have hi := inb_of S hj
  exact X.iaload hx (j := j) (v := v) (by rw [eT]; exact A.1) (State.isArrayOf_alike hZ.alike A.2.1) A.2.2 hi (Has.at H hi hat) hg hs hd _ hr
theorem own_caload (X : Stand p l e R s m args below meth c T locs cells slots) (hx : p.tables.exec = Jvm.exec) (hZ : Z.Warmed39 s.vm) (eT : T.heap = h) (F : Arv Z h a k .char z vs dv) (j : Int32) (v : Value) (hj : ¬ j < 0 ∧ j < z) (hat : vs.getD j.toNatClampNeg dv = v) {g : JFrame} (hg : g.method = m) {rest : List Value} (hs : g.stack = .int j :: .ref a :: rest) (hd : decode c.code g.pc = .ok (.caload, 1)) {target : State}
    (hr : Steps p.tables e below (T.setTop { g with pc := g.pc + 1, stack := v :: rest }) target) : Steps p.tables e below (T.setTop g) target := by
  obtain ⟨cl, A, q, S, N, H, G⟩ := F
  have hi := inb_of S hj
  exact X.caload hx (j := j) (v := v) (by rw [eT]; exact A.1) (State.isArrayOf_alike hZ.alike A.2.1) A.2.2 hi (Has.at H hi hat) hg hs hd _ hr
theorem own_saload (X : Stand p l e R s m args below meth c T locs cells slots) (hx : p.tables.exec = Jvm.exec) (hZ : Z.Warmed39 s.vm) (eT : T.heap = h) (F : Arv Z h a k .short z vs dv) (j : Int32) (v : Value) (hj : ¬ j < 0 ∧ j < z) (hat : vs.getD j.toNatClampNeg dv = v) {g : JFrame} (hg : g.method = m) {rest : List Value} (hs : g.stack = .int j :: .ref a :: rest) (hd : decode c.code g.pc = .ok (.saload, 1)) {target : State}
    (hr : Steps p.tables e below (T.setTop { g with pc := g.pc + 1, stack := v :: rest }) target) : Steps p.tables e below (T.setTop g) target := by
  obtain ⟨cl, A, q, S, N, H, G⟩ := F
  have hi := inb_of S hj
  exact X.saload hx (j := j) (v := v) (by rw [eT]; exact A.1) (State.isArrayOf_alike hZ.alike A.2.1) A.2.2 hi (Has.at H hi hat) hg hs hd _ hr
theorem own_baload (X : Stand p l e R s m args below meth c T locs cells slots) (hx : p.tables.exec = Jvm.exec) (hZ : Z.Warmed39 s.vm) (eT : T.heap = h) (F : Arv Z h a k .byte z vs dv) (j : Int32) (v : Value) (hj : ¬ j < 0 ∧ j < z) (hat : vs.getD j.toNatClampNeg dv = v) {g : JFrame} (hg : g.method = m) {rest : List Value} (hs : g.stack = .int j :: .ref a :: rest) (hd : decode c.code g.pc = .ok (.baload, 1)) {target : State}
    (hr : Steps p.tables e below (T.setTop { g with pc := g.pc + 1, stack := v :: rest }) target) : Steps p.tables e below (T.setTop g) target := by
  obtain ⟨cl, A, q, S, N, H, G⟩ := F
  have hi := inb_of S hj
  exact X.baloadBytes hx (j := j) (v := v) (by rw [eT]; exact A.1) (State.isArrayOf_alike hZ.alike A.2.1) A.2.2 hi (Has.at H hi hat) hg hs hd _ hr
theorem own_zaload (X : Stand p l e R s m args below meth c T locs cells slots) (hx : p.tables.exec = Jvm.exec) (hZ : Z.Warmed39 s.vm) (eT : T.heap = h) (F : Arv Z h a k .boolean z vs dv) (j : Int32) (v : Value) (hj : ¬ j < 0 ∧ j < z) (hat : vs.getD j.toNatClampNeg dv = v) {g : JFrame} (hg : g.method = m) {rest : List Value} (hs : g.stack = .int j :: .ref a :: rest) (hd : decode c.code g.pc = .ok (.baload, 1)) {target : State}
    (hr : Steps p.tables e below (T.setTop { g with pc := g.pc + 1, stack := v :: rest }) target) : Steps p.tables e below (T.setTop g) target := by
  obtain ⟨cl, A, q, S, N, H, G⟩ := F
  have hi := inb_of S hj
  exact X.baloadBooleans hx (j := j) (v := v) (by rw [eT]; exact A.1) (State.isArrayOf_alike hZ.alike A.2.1) A.2.2 hi (Has.at H hi hat) hg hs hd _ hr
theorem own_laload (X : Stand p l e R s m args below meth c T locs cells slots) (hx : p.tables.exec = Jvm.exec) (hZ : Z.Warmed39 s.vm) (eT : T.heap = h) (F : Arv Z h a k .long z vs dv) (j : Int32) (v : Value) (hj : ¬ j < 0 ∧ j < z) (hat : vs.getD j.toNatClampNeg dv = v) {g : JFrame} (hg : g.method = m) {rest : List Value} (hs : g.stack = .int j :: .ref a :: rest) (hd : decode c.code g.pc = .ok (.laload, 1)) {target : State}
    (hr : Steps p.tables e below (T.setTop { g with pc := g.pc + 1, stack := v :: rest }) target) : Steps p.tables e below (T.setTop g) target := by
  obtain ⟨cl, A, q, S, N, H, G⟩ := F
  have hi := inb_of S hj
  exact X.laload hx (j := j) (v := v) (by rw [eT]; exact A.1) (State.isArrayOf_alike hZ.alike A.2.1) A.2.2 hi (Has.at H hi hat) hg hs hd _ hr
theorem own_aaload (X : Stand p l e R s m args below meth c T locs cells slots) (hx : p.tables.exec = Jvm.exec) (hZ : Z.Warmed39 s.vm) (eT : T.heap = h) (F : Arv Z h a k ty z vs dv) (j : Int32) (v : Value) (hj : ¬ j < 0 ∧ j < z) (hat : vs.getD j.toNatClampNeg dv = v) (hty : ty.isReference = true) {g : JFrame} (hg : g.method = m) {rest : List Value} (hs : g.stack = .int j :: .ref a :: rest) (hd : decode c.code g.pc = .ok (.aaload, 1)) {target : State}
    (hr : Steps p.tables e below (T.setTop { g with pc := g.pc + 1, stack := v :: rest }) target) : Steps p.tables e below (T.setTop g) target := by
  obtain ⟨cl, A, q, S, N, H, G⟩ := F
  have hi := inb_of S hj
  exact X.aaload hx (j := j) (v := v) (by rw [eT]; exact A.1) (State.isArrayOf_alike hZ.alike A.2.1) hty A.2.2 hi (Has.at H hi hat) hg hs hd _ hr
theorem own_alen (X : Stand p l e R s m args below meth c T locs cells slots) (hx : p.tables.exec = Jvm.exec) (hZ : Z.Warmed39 s.vm) (eT : T.heap = h) (F : Arv Z h a k ty z vs dv) {g : JFrame} (hg : g.method = m) {rest : List Value} (hs : g.stack = .ref a :: rest) (hd : decode c.code g.pc = .ok (.arraylength, 1)) {target : State}
    (hr : Steps p.tables e below (T.setTop { g with pc := g.pc + 1, stack := .int z :: rest }) target) : Steps p.tables e below (T.setTop g) target := by
  obtain ⟨cl, A, q, S, N, -, -⟩ := F
  exact X.arraylength hx (by rw [eT]; exact A.1) (State.isArrayOf_alike hZ.alike A.2.1) hg hs hd _ (by rw [len_of S N]; exact hr)
theorem own_stI {K : State → Outcome → Prop} {n0 : Nat} (X : Stand p l e R s m args below meth c T locs cells slots) (hx : p.tables.exec = Jvm.exec) (hZ : Z.Warmed39 s.vm) (eT : T.heap = h) (F : Arv Z h a k .int z vs dv) (j : Int32) (x : Int32) (i : Nat) (hj : ¬ j < 0 ∧ j < z) (hi : j.toNatClampNeg = i) (hl : i < vs.length) (vs' : List Value) (hv : vs.set i (.int x) = vs') (N : Fr n0 locs) (ge : n0 ≤ a) {pc : Nat} {Ls : Array Slot} {rest : List Value} (hd : decode c.code pc = .ok (.iastore, 1))
    (kk : ∀ (T' : State) (h' : Heap) (L' : List Loc), Stand p l e R s m args below meth c T' L' cells slots → T'.heap = h' → Wr h h' a i (.int x) → Fr n0 L' → Arv Z h' a k .int z vs' dv → own_Go p e below K (T'.setTop (mkF m (pc + 1) Ls rest))) : own_Go p e below K (T.setTop (mkF m pc Ls (.int x :: .int j :: .ref a :: rest))) := by
  obtain ⟨cl, A, q, S, M, H, G⟩ := F
  subst hi; subst hv
  obtain ⟨T', h', X', e', W, st⟩ := stI X hx hZ eT A (j := j) (inb_of S hj) (g := mkF m pc Ls (.int x :: .int j :: .ref a :: rest)) rfl rfl hd
  exact own_go st (kk T' h' _ X' e' W (Fr.snoc X' N ge) (Arv.set A q S M H G rfl W _ rfl hl))
theorem own_stJ {K : State → Outcome → Prop} {n0 : Nat} (X : Stand p l e R s m args below meth c T locs cells slots) (hx : p.tables.exec = Jvm.exec) (hZ : Z.Warmed39 s.vm) (eT : T.heap = h) (F : Arv Z h a k .long z vs dv) (j : Int32) (x : Int64) (i : Nat) (hj : ¬ j < 0 ∧ j < z) (hi : j.toNatClampNeg = i) (hl : i < vs.length) (vs' : List Value) (hv : vs.set i (.long x) = vs') (N : Fr n0 locs) (ge : n0 ≤ a) {pc : Nat} {Ls : Array Slot} {rest : List Value} (hd : decode c.code pc = .ok (.lastore, 1))
    (kk : ∀ (T' : State) (h' : Heap) (L' : List Loc), Stand p l e R s m args below meth c T' L' cells slots → T'.heap = h' → Wr h h' a i (.long x) → Fr n0 L' → Arv Z h' a k .long z vs' dv → own_Go p e below K (T'.setTop (mkF m (pc + 1) Ls rest))) : own_Go p e below K (T.setTop (mkF m pc Ls (.long x :: .int j :: .ref a :: rest))) := by
  obtain ⟨cl, A, q, S, M, H, G⟩ := F
  subst hi; subst hv
  obtain ⟨T', h', X', e', W, st⟩ := stJ X hx hZ eT A (j := j) (inb_of S hj) (g := mkF m pc Ls (.long x :: .int j :: .ref a :: rest)) rfl rfl hd
  exact own_go st (kk T' h' _ X' e' W (Fr.snoc X' N ge) (Arv.set A q S M H G rfl W _ rfl hl))
theorem own_stB {K : State → Outcome → Prop} {n0 : Nat} (X : Stand p l e R s m args below meth c T locs cells slots) (hx : p.tables.exec = Jvm.exec) (hZ : Z.Warmed39 s.vm) (eT : T.heap = h) (F : Arv Z h a k .byte z vs dv) (j : Int32) (x x' : Int32) (i : Nat) (hj : ¬ j < 0 ∧ j < z) (hi : j.toNatClampNeg = i) (hl : i < vs.length) (hn : nar .byte x = x') (vs' : List Value) (hv : vs.set i (.int x') = vs') (N : Fr n0 locs) (ge : n0 ≤ a) {pc : Nat} {Ls : Array Slot} {rest : List Value} (hd : decode c.code pc = .ok (.bastore, 1))
    (kk : ∀ (T' : State) (h' : Heap) (L' : List Loc), Stand p l e R s m args below meth c T' L' cells slots → T'.heap = h' → Wr h h' a i (.int x') → Fr n0 L' → Arv Z h' a k .byte z vs' dv → own_Go p e below K (T'.setTop (mkF m (pc + 1) Ls rest))) : own_Go p e below K (T.setTop (mkF m pc Ls (.int x :: .int j :: .ref a :: rest))) := by
  obtain ⟨cl, A, q, S, M, H, G⟩ := F
  subst hn; subst hi; subst hv
  obtain ⟨T', h', X', e', W, st⟩ := stB X hx hZ eT A (j := j) (inb_of S hj) (g := mkF m pc Ls (.int x :: .int j :: .ref a :: rest)) rfl rfl hd
  exact own_go st (kk T' h' _ X' e' W (Fr.snoc X' N ge) (Arv.set A q S M H G (fits_nar_byte _) W _ rfl hl))
theorem own_stZ {K : State → Outcome → Prop} {n0 : Nat} (X : Stand p l e R s m args below meth c T locs cells slots) (hx : p.tables.exec = Jvm.exec) (hZ : Z.Warmed39 s.vm) (eT : T.heap = h) (F : Arv Z h a k .boolean z vs dv) (j : Int32) (x x' : Int32) (i : Nat) (hj : ¬ j < 0 ∧ j < z) (hi : j.toNatClampNeg = i) (hl : i < vs.length) (hn : nar .boolean x = x') (vs' : List Value) (hv : vs.set i (.int x') = vs') (N : Fr n0 locs) (ge : n0 ≤ a) {pc : Nat} {Ls : Array Slot} {rest : List Value} (hd : decode c.code pc = .ok (.bastore, 1))
    (kk : ∀ (T' : State) (h' : Heap) (L' : List Loc), Stand p l e R s m args below meth c T' L' cells slots → T'.heap = h' → Wr h h' a i (.int x') → Fr n0 L' → Arv Z h' a k .boolean z vs' dv → own_Go p e below K (T'.setTop (mkF m (pc + 1) Ls rest))) : own_Go p e below K (T.setTop (mkF m pc Ls (.int x :: .int j :: .ref a :: rest))) := by
  obtain ⟨cl, A, q, S, M, H, G⟩ := F
  subst hn; subst hi; subst hv
  obtain ⟨T', h', X', e', W, st⟩ := stZ X hx hZ eT A (j := j) (inb_of S hj) (g := mkF m pc Ls (.int x :: .int j :: .ref a :: rest)) rfl rfl hd
  exact own_go st (kk T' h' _ X' e' W (Fr.snoc X' N ge) (Arv.set A q S M H G (fits_nar_bool _) W _ rfl hl))
theorem own_stC {K : State → Outcome → Prop} {n0 : Nat} (X : Stand p l e R s m args below meth c T locs cells slots) (hx : p.tables.exec = Jvm.exec) (hZ : Z.Warmed39 s.vm) (eT : T.heap = h) (F : Arv Z h a k .char z vs dv) (j : Int32) (x x' : Int32) (i : Nat) (hj : ¬ j < 0 ∧ j < z) (hi : j.toNatClampNeg = i) (hl : i < vs.length) (hn : nar .char x = x') (vs' : List Value) (hv : vs.set i (.int x') = vs') (N : Fr n0 locs) (ge : n0 ≤ a) {pc : Nat} {Ls : Array Slot} {rest : List Value} (hd : decode c.code pc = .ok (.castore, 1))
    (kk : ∀ (T' : State) (h' : Heap) (L' : List Loc), Stand p l e R s m args below meth c T' L' cells slots → T'.heap = h' → Wr h h' a i (.int x') → Fr n0 L' → Arv Z h' a k .char z vs' dv → own_Go p e below K (T'.setTop (mkF m (pc + 1) Ls rest))) : own_Go p e below K (T.setTop (mkF m pc Ls (.int x :: .int j :: .ref a :: rest))) := by
  obtain ⟨cl, A, q, S, M, H, G⟩ := F
  subst hn; subst hi; subst hv
  obtain ⟨T', h', X', e', W, st⟩ := stC X hx hZ eT A (j := j) (inb_of S hj) (g := mkF m pc Ls (.int x :: .int j :: .ref a :: rest)) rfl rfl hd
  exact own_go st (kk T' h' _ X' e' W (Fr.snoc X' N ge) (Arv.set A q S M H G (fits_nar_char _) W _ rfl hl))
theorem own_stS {K : State → Outcome → Prop} {n0 : Nat} (X : Stand p l e R s m args below meth c T locs cells slots) (hx : p.tables.exec = Jvm.exec) (hZ : Z.Warmed39 s.vm) (eT : T.heap = h) (F : Arv Z h a k .short z vs dv) (j : Int32) (x x' : Int32) (i : Nat) (hj : ¬ j < 0 ∧ j < z) (hi : j.toNatClampNeg = i) (hl : i < vs.length) (hn : nar .short x = x') (vs' : List Value) (hv : vs.set i (.int x') = vs') (N : Fr n0 locs) (ge : n0 ≤ a) {pc : Nat} {Ls : Array Slot} {rest : List Value} (hd : decode c.code pc = .ok (.sastore, 1))
    (kk : ∀ (T' : State) (h' : Heap) (L' : List Loc), Stand p l e R s m args below meth c T' L' cells slots → T'.heap = h' → Wr h h' a i (.int x') → Fr n0 L' → Arv Z h' a k .short z vs' dv → own_Go p e below K (T'.setTop (mkF m (pc + 1) Ls rest))) : own_Go p e below K (T.setTop (mkF m pc Ls (.int x :: .int j :: .ref a :: rest))) := by
  obtain ⟨cl, A, q, S, M, H, G⟩ := F
  subst hn; subst hi; subst hv
  obtain ⟨T', h', X', e', W, st⟩ := stS X hx hZ eT A (j := j) (inb_of S hj) (g := mkF m pc Ls (.int x :: .int j :: .ref a :: rest)) rfl rfl hd
  exact own_go st (kk T' h' _ X' e' W (Fr.snoc X' N ge) (Arv.set A q S M H G (fits_nar_short _) W _ rfl hl))
theorem own_stR {K : State → Outcome → Prop} {n0 : Nat} (X : Stand p l e R s m args below meth c T locs cells slots) (hx : p.tables.exec = Jvm.exec) (hZ : Z.Warmed39 s.vm) (eT : T.heap = h) (F : Arv Z h a k ty z vs dv) (j : Int32) (v : Value) (i : Nat) (hj : ¬ j < 0 ∧ j < z) (hi : j.toNatClampNeg = i) (hl : i < vs.length) (sto : ∀ cl : Cell, Arr Z h a cl ty → cl.cls = k → Sto Z h a v) (hty : ty.isReference = true) (vs' : List Value) (hv : vs.set i v = vs') (N : Fr n0 locs) (ge : n0 ≤ a) {pc : Nat} {Ls : Array Slot} {rest : List Value} (hd : decode c.code pc = .ok (.aastore, 1))
    (kk : ∀ (T' : State) (h' : Heap) (L' : List Loc), Stand p l e R s m args below meth c T' L' cells slots → T'.heap = h' → Wr h h' a i v → Fr n0 L' → Arv Z h' a k ty z vs' dv → own_Go p e below K (T'.setTop (mkF m (pc + 1) Ls rest))) : own_Go p e below K (T.setTop (mkF m pc Ls (v :: .int j :: .ref a :: rest))) := by
  obtain ⟨cl, A, q, S, M, H, G⟩ := F
  subst hi; subst hv
  have so := sto cl A q
  obtain ⟨T', h', X', e', W, st⟩ := stR X hx hZ eT A (j := j) (inb_of S hj) hty so (g := mkF m pc Ls (v :: .int j :: .ref a :: rest)) rfl rfl hd
  have fv : fits ty v = true := by
    rcases so with rfl | ⟨_, _, _, _, _, _, _, y, _, _, _, _, rfl, _⟩ <;> cases ty <;> first | rfl | cases hty
  exact own_go st (kk T' h' _ X' e' W (Fr.snoc X' N ge) (Arv.set A q S M H G fv W _ rfl hl))
end Arrays
section Calls
variable {own : String} {index : Nat} {y z : MethodName} {bytes : ByteArray} {maxL : Nat} {ret : Option FieldType} {rm : Room} {W : Nat} {as' : Array Value} {Z : State} {a0 : Array Value} {h : Heap} {K : State → Outcome → Prop} {pc : Nat} {Ls : Array Slot} {argsL rest stk : List Value} {C : String} {b : Addr}
theorem own_cs (X : Stand p l e R s m args below meth c T locs cells slots) (hx : p.tables.exec = Jvm.exec) (hZ : Z.Warmed39 s.vm) (hown : s.vm.findClass own = some m.cls) (w1 : (Cond.methodLink own index y).before a0 Z = true) (w2 : (Cond.static y).before a0 Z = true) (w3 : (Cond.initialized y.cls).before a0 Z = true) (w4 : (Cond.code y bytes maxL ret).before a0 Z = true)
    (hy : y.cls ≠ "java/lang/invoke/MethodHandle" ∧ y.cls ≠ "java/lang/invoke/VarHandle")
    (hM : MetFree l y (head1 [Cond.code y bytes maxL ret] rm) (fun a U => a = as' ∧ Z.Warmed39 U.vm ∧ U.heap = h) (fun _ _ _ _ _ => True) (fun _ U o U' => ∃ v L, o = .returned v ∧ Q v U'.heap L ∧ FrameEnd U o U' L rm.cells rm.slots))
    (hf : rm.frames + 1 ≤ R.frames) (hl : W + (maxL + 11) + rm.locals ≤ R.locals) (hc : cells + rm.cells ≤ R.cells) (hs : slots + rm.slots ≤ R.slots) (eT : T.heap = h) (hsz : Ls.size = c.maxLocals) (hlen : ∀ sig, parseMethodDescriptor y.desc = some sig → argsL.length = sig.parameters.length)
    (hst : stk = argsL.reverse ++ rest) (has : argsL.toArray = as') (hW : (rest.map fun v => v.category).sum ≤ W) (hd : decode c.code pc = .ok (.invokestatic index, 3))
    (k : ∀ (v : Option Value) (T' : State) (L : List Loc), Stand p l e R s m args below meth c T' (locs ++ L) (cells + rm.cells) (slots + rm.slots) → Q v T'.heap L → own_Go p e below K (T'.setTop (mkF m (pc + 3) Ls (v.toList ++ rest)))) : own_Go p e below K (T.setTop (mkF m pc Ls stk)) := by
  obtain ⟨v, _, ⟨T', L', k', n'⟩, -, X', ⟨L, hQ, h1, h2, h3⟩, st⟩ := Jvm.LawKit.callS X hx (y := y) hown (mvT hZ w1) (mvT hZ w2) (mvT hZ w3) (mvT hZ w4) hy (backOf (W := W) hM hZ w4 w3 hf hl) (g := mkF m pc Ls stk) rfl hsz (argsL := argsL) (rest := rest) hlen hst (by show 2 * 0 + _ ≤ _; simpa using hW) hd (fun _ _ => ⟨has, eT, hc, hs⟩)
  dsimp only [Pt.U, Pt.locs, Pt.cells, Pt.slots] at X' h1 h2 h3 st hQ
  subst h1 h2 h3
  exact own_go st (k v T' L X' hQ)
theorem own_cp (X : Stand p l e R s m args below meth c T locs cells slots) (hx : p.tables.exec = Jvm.exec) (hZ : Z.Warmed39 s.vm) (hown : s.vm.findClass own = some m.cls) (hy1 : y.name = "<init>") (w1 : (Cond.methodLink own index y).before a0 Z = true) (w2 : (Cond.instanceMethod y).before a0 Z = true) (w3 : (Cond.initialized y.cls).before a0 Z = true) (w4 : (Cond.code y bytes maxL none).before a0 Z = true)
    (hy : y.cls ≠ "java/lang/invoke/MethodHandle" ∧ y.cls ≠ "java/lang/invoke/VarHandle")
    (hM : MetFree l y (head1 [Cond.code y bytes maxL none] rm) (fun a U => a = as' ∧ Z.Warmed39 U.vm ∧ U.heap = h) (fun _ _ _ _ _ => True) (fun _ U o U' => ∃ v L, o = .returned v ∧ Q v U'.heap L ∧ FrameEnd U o U' L rm.cells rm.slots))
    (hf : rm.frames + 1 ≤ R.frames) (hl : W + (maxL + 11) + rm.locals ≤ R.locals) (hc : cells + rm.cells ≤ R.cells) (hs : slots + rm.slots ≤ R.slots) (eT : T.heap = h) (hsz : Ls.size = c.maxLocals) (hlen : ∀ sig, parseMethodDescriptor y.desc = some sig → argsL.length = sig.parameters.length)
    (hst : stk = argsL.reverse ++ .ref b :: rest) (has : (.ref b :: argsL).toArray = as') (hW : (rest.map fun v => v.category).sum ≤ W) (hd : decode c.code pc = .ok (.invokespecial index, 3))
    (k : ∀ (v : Option Value) (T' : State) (L : List Loc), Stand p l e R s m args below meth c T' (locs ++ L) (cells + rm.cells) (slots + rm.slots) → Q v T'.heap L → own_Go p e below K (T'.setTop (mkF m (pc + 3) Ls (v.toList ++ rest)))) : own_Go p e below K (T.setTop (mkF m pc Ls stk)) := by
  obtain ⟨v, _, ⟨T', L', k', n'⟩, -, X', ⟨L, hQ, h1, h2, h3⟩, st⟩ := X.specialBack hx (y := y) hy1 hown (mvT hZ w1) (mvT hZ w2) (mvT hZ w4) hy (backOf (W := W) hM hZ w4 w3 hf hl) (g := mkF m pc Ls stk) rfl hsz (Steps.refl _) (a := b) (argsL := argsL) (rest := rest) hlen hst (by show 2 * 0 + _ ≤ _; simpa using hW) hd (fun _ _ => ⟨has, eT, hc, hs⟩)
  dsimp only [Pt.U, Pt.locs, Pt.cells, Pt.slots] at X' h1 h2 h3 st hQ
  subst h1 h2 h3
  exact own_via st (k v T' L X' hQ)
theorem own_cv (X : Stand p l e R s m args below meth c T locs cells slots) (hx : p.tables.exec = Jvm.exec) (hZ : Z.Warmed39 s.vm) (hown : s.vm.findClass own = some m.cls) (nf : NotFace s y) (w1 : (Cond.methodLink own index y).before a0 Z = true) (w2 : (Cond.declares y).before a0 Z = true) (w5 : (Cond.selects C y z).before a0 Z = true) (w6 : (Cond.instanceMethod z).before a0 Z = true) (w3 : (Cond.initialized z.cls).before a0 Z = true) (w4 : (Cond.code z bytes maxL ret).before a0 Z = true)
    (hy : y.cls ≠ "java/lang/invoke/MethodHandle" ∧ y.cls ≠ "java/lang/invoke/VarHandle") (E : Exa Z h b C)
    (hM : MetFree l z (head1 [Cond.code z bytes maxL ret] rm) (fun a U => a = as' ∧ Z.Warmed39 U.vm ∧ U.heap = h) (fun _ _ _ _ _ => True) (fun _ U o U' => ∃ v L, o = .returned v ∧ Q v U'.heap L ∧ FrameEnd U o U' L rm.cells rm.slots))
    (hf : rm.frames + 1 ≤ R.frames) (hl : W + (maxL + 11) + rm.locals ≤ R.locals) (hc : cells + rm.cells ≤ R.cells) (hs : slots + rm.slots ≤ R.slots) (eT : T.heap = h) (hsz : Ls.size = c.maxLocals) (hlen : ∀ sig, parseMethodDescriptor y.desc = some sig → argsL.length = sig.parameters.length)
    (hst : stk = argsL.reverse ++ .ref b :: rest) (has : (.ref b :: argsL).toArray = as') (hW : (rest.map fun v => v.category).sum ≤ W) (hd : decode c.code pc = .ok (.invokevirtual index, 3))
    (k : ∀ (v : Option Value) (T' : State) (L : List Loc), Stand p l e R s m args below meth c T' (locs ++ L) (cells + rm.cells) (slots + rm.slots) → Q v T'.heap L → own_Go p e below K (T'.setTop (mkF m (pc + 3) Ls (v.toList ++ rest)))) : own_Go p e below K (T.setTop (mkF m pc Ls stk)) := by
  obtain ⟨cq, kq, qa, qb, qc⟩ := isOf hZ eT E
  obtain ⟨v, _, ⟨T', L', k', n'⟩, -, X', ⟨L, hQ, h1, h2, h3⟩, st⟩ := X.virtualBack hx (y := y) (z := z) hown (mvT hZ w1) (mvT hZ w2) nf (mvT hZ w5) (mvT hZ w6) hy (backOf (W := W) hM hZ w4 w3 hf hl) qa qc (g := mkF m pc Ls stk) rfl hsz (Steps.refl _) (argsL := argsL) (rest := rest) hlen hst (by show 2 * 0 + _ ≤ _; simpa using hW) hd (fun _ _ => ⟨has, eT, hc, hs⟩)
  dsimp only [Pt.U, Pt.locs, Pt.cells, Pt.slots] at X' h1 h2 h3 st hQ
  subst h1 h2 h3
  exact own_via st (k v T' L X' hQ)
theorem own_cq (X : Stand p l e R s m args below meth c T locs cells slots) (hx : p.tables.exec = Jvm.exec) (hZ : Z.Warmed39 s.vm) (hown : s.vm.findClass own = some m.cls) (w1 : (Cond.methodLink own index y).before a0 Z = true) (w6 : (Cond.instanceMethod y).before a0 Z = true) (w5 : (Cond.selects y.cls y y).before a0 Z = true) (w7 : (Cond.privateMethod y).before a0 Z = true) (w3 : (Cond.initialized y.cls).before a0 Z = true) (w4 : (Cond.code y bytes maxL ret).before a0 Z = true)
    (hy : y.cls ≠ "java/lang/invoke/MethodHandle" ∧ y.cls ≠ "java/lang/invoke/VarHandle") (E : Exa Z h b C)
    (hM : MetFree l y (head1 [Cond.code y bytes maxL ret] rm) (fun a U => a = as' ∧ Z.Warmed39 U.vm ∧ U.heap = h) (fun _ _ _ _ _ => True) (fun _ U o U' => ∃ v L, o = .returned v ∧ Q v U'.heap L ∧ FrameEnd U o U' L rm.cells rm.slots))
    (hf : rm.frames + 1 ≤ R.frames) (hl : W + (maxL + 11) + rm.locals ≤ R.locals) (hc : cells + rm.cells ≤ R.cells) (hs : slots + rm.slots ≤ R.slots) (eT : T.heap = h) (hsz : Ls.size = c.maxLocals) (hlen : ∀ sig, parseMethodDescriptor y.desc = some sig → argsL.length = sig.parameters.length)
    (hst : stk = argsL.reverse ++ .ref b :: rest) (has : (.ref b :: argsL).toArray = as') (hW : (rest.map fun v => v.category).sum ≤ W) (hd : decode c.code pc = .ok (.invokevirtual index, 3))
    (k : ∀ (v : Option Value) (T' : State) (L : List Loc), Stand p l e R s m args below meth c T' (locs ++ L) (cells + rm.cells) (slots + rm.slots) → Q v T'.heap L → own_Go p e below K (T'.setTop (mkF m (pc + 3) Ls (v.toList ++ rest)))) : own_Go p e below K (T.setTop (mkF m pc Ls stk)) := by
  obtain ⟨cq, q1, q2⟩ := E.cell
  obtain ⟨v, _, ⟨T', L', k', n'⟩, -, X', ⟨L, hQ, h1, h2, h3⟩, st⟩ := X.privateBack hx (y := y) hown (mvT hZ w1) (mvT hZ w6) (mvT hZ w5) (Cond.privateMethod_at (mvP hZ w7 (args := #[]))) (mvT hZ w4) hy (backOf (W := W) hM hZ w4 w3 hf hl) (g := mkF m pc Ls stk) rfl hsz (Steps.refl _) (a := b) (by rw [eT]; exact q1) q2 (argsL := argsL) (rest := rest) hlen hst (by show 2 * 0 + _ ≤ _; simpa using hW) hd (fun _ _ => ⟨has, eT, hc, hs⟩)
  dsimp only [Pt.U, Pt.locs, Pt.cells, Pt.slots] at X' h1 h2 h3 st hQ
  subst h1 h2 h3
  exact own_via st (k v T' L X' hQ)
theorem own_cu {owner : String} (X : Stand p l e R s m args below meth c T locs cells slots) (hx : p.tables.exec = Jvm.exec) (hZ : Z.Warmed39 s.vm) (hown : s.vm.findClass own = some m.cls) (w1 : (Cond.methodLink own index y).before a0 Z = true) (w8 : (Cond.sameMethod y.cls owner y.name y.desc).before a0 Z = true) (w2 : (Cond.declares ⟨owner, y.name, y.desc⟩).before a0 Z = true) (w5 : (Cond.selects C y z).before a0 Z = true) (w6 : (Cond.instanceMethod z).before a0 Z = true) (w3 : (Cond.initialized z.cls).before a0 Z = true) (w4 : (Cond.code z bytes maxL ret).before a0 Z = true)
    (hy : owner ≠ "java/lang/invoke/MethodHandle" ∧ owner ≠ "java/lang/invoke/VarHandle") (E : Exa Z h b C)
    (hM : MetFree l z (head1 [Cond.code z bytes maxL ret] rm) (fun a U => a = as' ∧ Z.Warmed39 U.vm ∧ U.heap = h) (fun _ _ _ _ _ => True) (fun _ U o U' => ∃ v L, o = .returned v ∧ Q v U'.heap L ∧ FrameEnd U o U' L rm.cells rm.slots))
    (hf : rm.frames + 1 ≤ R.frames) (hl : W + (maxL + 11) + rm.locals ≤ R.locals) (hc : cells + rm.cells ≤ R.cells) (hs : slots + rm.slots ≤ R.slots) (eT : T.heap = h) (hsz : Ls.size = c.maxLocals) (hlen : ∀ sig, parseMethodDescriptor y.desc = some sig → argsL.length = sig.parameters.length)
    (hst : stk = argsL.reverse ++ .ref b :: rest) (has : (.ref b :: argsL).toArray = as') (hW : (rest.map fun v => v.category).sum ≤ W) (hd : decode c.code pc = .ok (.invokevirtual index, 3))
    (k : ∀ (v : Option Value) (T' : State) (L : List Loc), Stand p l e R s m args below meth c T' (locs ++ L) (cells + rm.cells) (slots + rm.slots) → Q v T'.heap L → own_Go p e below K (T'.setTop (mkF m (pc + 3) Ls (v.toList ++ rest)))) : own_Go p e below K (T.setTop (mkF m pc Ls stk)) := by
  obtain ⟨cq, kq, qa, qb, qc⟩ := isOf hZ eT E
  obtain ⟨v, _, ⟨T', L', k', n'⟩, -, X', ⟨L, hQ, h1, h2, h3⟩, st⟩ := X.virtualBackUp hx (x := y) (y := z) (owner := owner) hown (mvT hZ w1) (mvT hZ w8) (mvT hZ w2) hy (mvT hZ w5) (mvT hZ w6) (backOf (W := W) hM hZ w4 w3 hf hl) qa qc (g := mkF m pc Ls stk) rfl hsz (Steps.refl _) (argsL := argsL) (rest := rest) hlen hst (by show 2 * 0 + _ ≤ _; simpa using hW) hd (fun _ _ => ⟨has, eT, hc, hs⟩)
  dsimp only [Pt.U, Pt.locs, Pt.cells, Pt.slots] at X' h1 h2 h3 st hQ
  subst h1 h2 h3
  exact own_via st (k v T' L X' hQ)
end Calls
theorem own_fld_eq {Z : State} {h : Heap} {a : Addr} {C n d : String} {v w : Value} (F : Fld Z h a C n d v) (G : Fld Z h a C n d w) : v = w := Classical.byContradiction fun q => Fld.ne F G q rfl
theorem own_nsroot {Z : State} {a0 : Array Value} {O K : String} {n : Nat} (w : (Cond.noSuperclass O).before a0 Z = true) (wk : (Cond.instantiable K n).before a0 Z = true) (hn : O ≠ K) : NS Z O K := by
  obtain ⟨c, k, h1, h2, h3, -, -⟩ := Cond.noSuperclass_spec w
  obtain ⟨t, kt, g1, -⟩ := Cond.instantiable_spec wk
  have ne := ids_ne h1 g1 hn
  refine ⟨c, t, h1, g1, fun fuel => ?_⟩
  cases fuel with
  | zero => rfl
  | succ f => simp [Vm.isSubclassAux, ne, h2, h3]
theorem own_nsno {Z : State} {a0 : Array Value} {C S K : String} {n : Nat} (w : (Cond.superclass C S).before a0 Z = true) (wk : (Cond.instantiable K n).before a0 Z = true) (nn : NS Z C K) (hn : C ≠ K) : ∃ c t, Z.vm.findClass C = some c ∧ Z.vm.findClass K = some t ∧ Z.vm.assignable c t = false := by
  obtain ⟨c, t, h0, g0, n3⟩ := nn
  obtain ⟨p, k, kp, h1, h2, h3, h4, h5, -, h7⟩ := Cond.superclass_spec h0 w
  obtain ⟨t', kt, g1, g2, g5, g6, -⟩ := Cond.instantiable_spec wk
  cases g0.symm.trans g1
  have g7 : kt.isInterface = false := by simp only [Bool.or_eq_false_iff] at g6; exact g6.1
  have ne := ids_ne h0 g0 hn
  refine ⟨c, t, h0, g0, ?_⟩
  show Z.vm.assignableAux (255 + 1) c t = false
  simp [Vm.assignableAux, ne, h2, g2, h5, g5, g7, Vm.isSubclass, n3]
theorem own_ns_exa {Z : State} {h : Heap} {a : Addr} {C : String} (F : Exa Z h a C) : ∀ cell : Cell, h[a]? = some cell → cell.vm.isStatics = false := fun cell hc => by
  obtain ⟨c, _, h1, -, -, h4, -⟩ := F; cases h1.symm.trans hc; exact h4
theorem own_ns_arv {Z : State} {h : Heap} {a : Addr} {k : ClassId} {ty : FieldType} {z : Int32} {vs : List Value} {dv : Value} (F : Arv Z h a k ty z vs dv) : ∀ cell : Cell, h[a]? = some cell → cell.vm.isStatics = false := fun cell hc => by
  obtain ⟨c, A, -⟩ := F; cases A.1.symm.trans hc; exact A.plain
theorem own_sta_keep {Z : State} {h h' : Heap} {C f d : String} {v : Value} {ws : List Addr} (F : Sta Z h C f d v) (K : Keep h h' ws) (q : ∀ x ∈ ws, ∀ cell : Cell, h[x]? = some cell → cell.vm.isStatics = false) : Sta Z h' C f d v := by
  obtain ⟨cf, i, k, fl, st, cell, h1, h2, h3, h4, h5, h6, h7⟩ := F
  exact ⟨cf, i, k, fl, st, cell, h1, h2, h3, h4, K.2.1 _ _ h5 (fun hm => by rw [q _ hm _ h5] at h6; cases h6), h6, h7⟩
end Own
end Jvm.RoadKit
namespace Jvm.Pilot.@@N@@
open Jvm Jvm.ClassFile Sem Op Lib Jvm.Free Jvm.Stand Jvm.LawKit Jvm.RoadKit Bundle Jvm.Pilot.@@N@@.Jvm.D
theorem own_m (i : Nat) {d : Jvm.Cond} (h : tables_1[i]? = some d) : d ∈ tables_1 := List.mem_of_getElem? h
theorem own_eq_int {args : Array Value} {s first : State} {o : Option Outcome} {idx : List Nat} {t : Term} {k : Int32} (h : (Cond.eq t (.int k)).value args first o s idx = some true) : t.eval args first o idx s = some (.int k) := by
  obtain ⟨x, y, h1, h2, h3, h4⟩ := cmp_v (r := true) (Or.inl h)
  have e2 : y = .int k := (Option.some.inj h2).symm
  subst e2
  obtain ⟨z, rfl⟩ := h4
  have q := h
  simp only [Cond.value, h1, h2] at q
  have : z = k := by simpa using q
  rw [h1, this]
theorem own_eq_ref {args : Array Value} {s first : State} {o : Option Outcome} {idx : List Nat} {t u : Term} {a : Addr} (hu : u.eval args first o idx s = some (.ref a)) (h : (Cond.eq t u).value args first o s idx = some true) : t.eval args first o idx s = some (.ref a) := by
  obtain ⟨x, y, h1, h2, h3, h4⟩ := cmp_v (r := true) (Or.inl h)
  cases hu.symm.trans h2
  have q := h
  simp only [Cond.value, h1, h2] at q
  cases x <;> simp [Kin, Value.isRef] at h3 h4 q ⊢
  rw [h1, q]
def own_pick (s x : Int32) : Int32 := if s &&& 7 = 0 then 10 else if s &&& 7 = 1 then 133 else if s &&& 7 = 2 then 8232 else if s &&& 7 = 3 then 13 else if s &&& 7 = 4 then 65546 else if s &&& 7 = 5 then 65669 else x
def own_w0 (c : Int32) : Int32 := if c = 10 then 1 else 0
def own_w1 (c : Int32) : Int32 := if c = 10 then 1 else if c = 133 then 1 else 0
def own_l0 (c : Int32) : Int32 := if c = 10 then 1 else if c = 13 then 1 else 0
def own_l1 (c : Int32) : Int32 := if c = 10 then 1 else if c = 13 then 1 else if c = 133 then 1 else if c = 8232 then 1 else 0

theorem own_d_method_2_code_0 : decode method_2_code 0 = .ok (.iload_n 0, 1) := by decide +kernel
theorem own_d_method_2_code_1 : decode method_2_code 1 = .ok (.bipush 7, 2) := by decide +kernel
theorem own_d_method_2_code_3 : decode method_2_code 3 = .ok (.iand, 1) := by decide +kernel
theorem own_d_method_2_code_4 : decode method_2_code 4 = .ok (.istore_n 2, 1) := by decide +kernel
theorem own_d_method_2_code_5 : decode method_2_code 5 = .ok (.iload_n 2, 1) := by decide +kernel
theorem own_d_method_2_code_6 : decode method_2_code 6 = .ok (.ifCond .ne 6, 3) := by decide +kernel
theorem own_d_method_2_code_9 : decode method_2_code 9 = .ok (.bipush 10, 2) := by decide +kernel
theorem own_d_method_2_code_11 : decode method_2_code 11 = .ok (.ireturn, 1) := by decide +kernel
theorem own_d_method_2_code_12 : decode method_2_code 12 = .ok (.iload_n 2, 1) := by decide +kernel
theorem own_d_method_2_code_13 : decode method_2_code 13 = .ok (.iconst 1, 1) := by decide +kernel
theorem own_d_method_2_code_14 : decode method_2_code 14 = .ok (.if_icmp .ne 7, 3) := by decide +kernel
theorem own_d_method_2_code_17 : decode method_2_code 17 = .ok (.sipush 133, 3) := by decide +kernel
theorem own_d_method_2_code_20 : decode method_2_code 20 = .ok (.ireturn, 1) := by decide +kernel
theorem own_d_method_2_code_21 : decode method_2_code 21 = .ok (.iload_n 2, 1) := by decide +kernel
theorem own_d_method_2_code_22 : decode method_2_code 22 = .ok (.iconst 2, 1) := by decide +kernel
theorem own_d_method_2_code_23 : decode method_2_code 23 = .ok (.if_icmp .ne 7, 3) := by decide +kernel
theorem own_d_method_2_code_26 : decode method_2_code 26 = .ok (.sipush 8232, 3) := by decide +kernel
theorem own_d_method_2_code_29 : decode method_2_code 29 = .ok (.ireturn, 1) := by decide +kernel
theorem own_d_method_2_code_30 : decode method_2_code 30 = .ok (.iload_n 2, 1) := by decide +kernel
theorem own_d_method_2_code_31 : decode method_2_code 31 = .ok (.iconst 3, 1) := by decide +kernel
theorem own_d_method_2_code_32 : decode method_2_code 32 = .ok (.if_icmp .ne 6, 3) := by decide +kernel
theorem own_d_method_2_code_35 : decode method_2_code 35 = .ok (.bipush 13, 2) := by decide +kernel
theorem own_d_method_2_code_37 : decode method_2_code 37 = .ok (.ireturn, 1) := by decide +kernel
theorem own_d_method_2_code_38 : decode method_2_code 38 = .ok (.iload_n 2, 1) := by decide +kernel
theorem own_d_method_2_code_39 : decode method_2_code 39 = .ok (.iconst 4, 1) := by decide +kernel
theorem own_d_method_2_code_40 : decode method_2_code 40 = .ok (.if_icmp .ne 6, 3) := by decide +kernel
theorem own_d_method_2_code_43 : decode method_2_code 43 = .ok (.ldc 7, 2) := by decide +kernel
theorem own_d_method_2_code_45 : decode method_2_code 45 = .ok (.ireturn, 1) := by decide +kernel
theorem own_d_method_2_code_46 : decode method_2_code 46 = .ok (.iload_n 2, 1) := by decide +kernel
theorem own_d_method_2_code_47 : decode method_2_code 47 = .ok (.iconst 5, 1) := by decide +kernel
theorem own_d_method_2_code_48 : decode method_2_code 48 = .ok (.if_icmp .ne 6, 3) := by decide +kernel
theorem own_d_method_2_code_51 : decode method_2_code 51 = .ok (.ldc 8, 2) := by decide +kernel
theorem own_d_method_2_code_53 : decode method_2_code 53 = .ok (.ireturn, 1) := by decide +kernel
theorem own_d_method_2_code_54 : decode method_2_code 54 = .ok (.iload_n 1, 1) := by decide +kernel
theorem own_d_method_2_code_55 : decode method_2_code 55 = .ok (.ireturn, 1) := by decide +kernel
theorem own_pn_com_example_fitzroy_fitzroy_XmlVersionEndsLineWithCarriageReturnPinLaw : plainName "com/example/fitzroy/fitzroy/XmlVersionEndsLineWithCarriageReturnPinLaw" = true := by first | (simp [plainName, overriddenIn]; done) | decide +kernel
def Q_pick (Z : State) (s0 : Int32) (x0 : Int32) (h0 : Heap) (n0 : Nat) (v : Option Value) (h : Heap) (L : List Loc) : Prop := v = some (.int (own_pick s0 x0)) ∧ Fr n0 L ∧ h = h0
set_option maxRecDepth 65536 in
set_option maxHeartbeats 40000000 in
theorem rm_pick (l : Launch) (Z : State) (a0 : Array Value) (hw : ∀ d ∈ tables_1, d.before a0 Z = true) (ws : List Jvm.Cond) (s0 : Int32) (x0 : Int32) (h0 : Heap) (n0 : Nat) (Z0 : n0 ≤ h0.size) :
    MetFree l (⟨"com/example/fitzroy/fitzroy/XmlVersionEndsLineWithCarriageReturnPinLaw", "pick", "(II)I"⟩ : MethodName) (head1 (Jvm.Cond.code (⟨"com/example/fitzroy/fitzroy/XmlVersionEndsLineWithCarriageReturnPinLaw", "pick", "(II)I"⟩ : MethodName) method_2_code 3 (some .int) :: ws) ({ frames := 0, cells := 0, slots := 0, locals := 0 } : Room)) (fun a U => a = #[(.int s0), (.int x0)] ∧ Z.Warmed39 U.vm ∧ U.heap = h0) (fun _ _ _ _ _ => True) (fun _ U o U' => ∃ v L, o = .returned v ∧ Q_pick Z s0 x0 h0 n0 v U'.heap L ∧ FrameEnd U o U' L ({ frames := 0, cells := 0, slots := 0, locals := 0 } : Room).cells ({ frames := 0, cells := 0, slots := 0, locals := 0 } : Room).slots) := by
  refine MetFree.of_bodySF (plainFor_of_name own_pn_com_example_fitzroy_fitzroy_XmlVersionEndsLineWithCarriageReturnPinLaw) hisR ?_
  intro p e s m args below meth c s₁ Bd hml0 hP hK
  obtain ⟨rfl, hZ, hh⟩ := hP
  have hx := Bd.exec
  have hby := Bd.bytes
  have hlk : meth.locks = false := BodyLoose.notSynchronized Bd
  have hml : c.maxLocals = 3 := hml0
  have hown : s.vm.findClass "com/example/fitzroy/fitzroy/XmlVersionEndsLineWithCarriageReturnPinLaw" = some m.cls := findClass_of_methodNamed Bd.named
  have hnm := (name_of_methodNamed Bd.named Bd.method).1
  have X0 : Stand p l e ({ frames := 0, cells := 0, slots := 0, locals := 0 } : Room) s m #[(.int s0), (.int x0)] below meth c s₁ [] 0 0 := Stand.of_body Bd
  have e0 : s₁.heap = h0 := by rw [← hh, Bd.state]; rfl
  have N0 := Fr.nil n0
  show own_Go p e below (own_K s (Q_pick Z s0 x0 h0 n0) ({ frames := 0, cells := 0, slots := 0, locals := 0 } : Room).cells ({ frames := 0, cells := 0, slots := 0, locals := 0 } : Room).slots) (s₁.setTop (entryFrame m #[(.int s0), (.int x0)] 3))
  rw [(by first | (simp [entryFrame, mkF, argsToLocals, Value.category]; done) | rfl : entryFrame m #[(.int s0), (.int x0)] 3 = mkF m 0 #[.val (.int s0), .val (.int x0), .unset] [])]
  show own_Go p e below _ (s₁.setTop (mkF m 0 #[.val (.int s0), .val (.int x0), .unset] []))
  refine own_go (fun _ hr => XS.iloadN X0.here hx rfl (hb hby own_d_method_2_code_0) rfl (XS.bipush X0.here hx rfl (hb hby own_d_method_2_code_1) (XS.iand X0.here hx rfl (hb hby own_d_method_2_code_3) rfl (XS.istoreN X0.here hx rfl (hb hby own_d_method_2_code_4) rfl (l' := #[.val (.int s0), .val (.int x0), .val (.int (s0 &&& (7 : Int32)))]) rfl (XS.iloadN X0.here hx rfl (hb hby own_d_method_2_code_5) rfl hr))))) ?_
  show own_Go p e below _ (s₁.setTop (mkF m 6 #[.val (.int s0), .val (.int x0), .val (.int (s0 &&& (7 : Int32)))] [(.int (s0 &&& (7 : Int32)))]))
  by_cases c1 : (s0 &&& (7 : Int32)) = (0 : Int32)
  · refine own_go (fun _ hr => XS.ifNo X0.here hx rfl (hb hby own_d_method_2_code_6) rfl ((if0 _ _).trans (teq c1).2) hr) ?_
    show own_Go p e below _ (s₁.setTop (mkF m 9 #[.val (.int s0), .val (.int x0), .val (.int (s0 &&& (7 : Int32)))] []))
    refine own_go (fun _ hr => XS.bipush X0.here hx rfl (hb hby own_d_method_2_code_9) hr) ?_
    show own_Go p e below _ (s₁.setTop (mkF m 11 #[.val (.int s0), .val (.int x0), .val (.int (s0 &&& (7 : Int32)))] [(.int (10 : Int32))]))
    exact own_retI X0 hx hlk Bd.returns (hb hby own_d_method_2_code_11) (by decide) (by decide) ⟨(show some (Value.int (10 : Int32)) = some (Value.int (own_pick s0 x0)) by simp [own_pick, c1]), N0, e0⟩
  refine own_go (fun _ hr => XS.ifYes X0.here hx rfl (pc0 := 6) (pc' := 12) rfl (hb hby own_d_method_2_code_6) rfl ((if0 _ _).trans (feq c1).2) (by decide) (by decide) hr) ?_
  show own_Go p e below _ (s₁.setTop (mkF m 12 #[.val (.int s0), .val (.int x0), .val (.int (s0 &&& (7 : Int32)))] []))
  refine own_go (fun _ hr => XS.iloadN X0.here hx rfl (hb hby own_d_method_2_code_12) rfl (XS.iconst X0.here hx rfl (hb hby own_d_method_2_code_13) hr)) ?_
  show own_Go p e below _ (s₁.setTop (mkF m 14 #[.val (.int s0), .val (.int x0), .val (.int (s0 &&& (7 : Int32)))] [(.int (1 : Int32)), (.int (s0 &&& (7 : Int32)))]))
  by_cases c2 : (s0 &&& (7 : Int32)) = (1 : Int32)
  · refine own_go (fun _ hr => XS.icmpNo X0.here hx rfl (hb hby own_d_method_2_code_14) rfl (teq c2).2 hr) ?_
    show own_Go p e below _ (s₁.setTop (mkF m 17 #[.val (.int s0), .val (.int x0), .val (.int (s0 &&& (7 : Int32)))] []))
    refine own_go (fun _ hr => XS.sipush X0.here hx rfl (hb hby own_d_method_2_code_17) hr) ?_
    show own_Go p e below _ (s₁.setTop (mkF m 20 #[.val (.int s0), .val (.int x0), .val (.int (s0 &&& (7 : Int32)))] [(.int (133 : Int32))]))
    exact own_retI X0 hx hlk Bd.returns (hb hby own_d_method_2_code_20) (by decide) (by decide) ⟨(show some (Value.int (133 : Int32)) = some (Value.int (own_pick s0 x0)) by simp [own_pick, c1, c2]), N0, e0⟩
  refine own_go (fun _ hr => XS.icmpYes X0.here hx rfl (pc0 := 14) (pc' := 21) rfl (hb hby own_d_method_2_code_14) rfl (feq c2).2 (by decide) (by decide) hr) ?_
  show own_Go p e below _ (s₁.setTop (mkF m 21 #[.val (.int s0), .val (.int x0), .val (.int (s0 &&& (7 : Int32)))] []))
  refine own_go (fun _ hr => XS.iloadN X0.here hx rfl (hb hby own_d_method_2_code_21) rfl (XS.iconst X0.here hx rfl (hb hby own_d_method_2_code_22) hr)) ?_
  show own_Go p e below _ (s₁.setTop (mkF m 23 #[.val (.int s0), .val (.int x0), .val (.int (s0 &&& (7 : Int32)))] [(.int (2 : Int32)), (.int (s0 &&& (7 : Int32)))]))
  by_cases c3 : (s0 &&& (7 : Int32)) = (2 : Int32)
  · refine own_go (fun _ hr => XS.icmpNo X0.here hx rfl (hb hby own_d_method_2_code_23) rfl (teq c3).2 hr) ?_
    show own_Go p e below _ (s₁.setTop (mkF m 26 #[.val (.int s0), .val (.int x0), .val (.int (s0 &&& (7 : Int32)))] []))
    refine own_go (fun _ hr => XS.sipush X0.here hx rfl (hb hby own_d_method_2_code_26) hr) ?_
    show own_Go p e below _ (s₁.setTop (mkF m 29 #[.val (.int s0), .val (.int x0), .val (.int (s0 &&& (7 : Int32)))] [(.int (8232 : Int32))]))
    exact own_retI X0 hx hlk Bd.returns (hb hby own_d_method_2_code_29) (by decide) (by decide) ⟨(show some (Value.int (8232 : Int32)) = some (Value.int (own_pick s0 x0)) by simp [own_pick, c1, c2, c3]), N0, e0⟩
  refine own_go (fun _ hr => XS.icmpYes X0.here hx rfl (pc0 := 23) (pc' := 30) rfl (hb hby own_d_method_2_code_23) rfl (feq c3).2 (by decide) (by decide) hr) ?_
  show own_Go p e below _ (s₁.setTop (mkF m 30 #[.val (.int s0), .val (.int x0), .val (.int (s0 &&& (7 : Int32)))] []))
  refine own_go (fun _ hr => XS.iloadN X0.here hx rfl (hb hby own_d_method_2_code_30) rfl (XS.iconst X0.here hx rfl (hb hby own_d_method_2_code_31) hr)) ?_
  show own_Go p e below _ (s₁.setTop (mkF m 32 #[.val (.int s0), .val (.int x0), .val (.int (s0 &&& (7 : Int32)))] [(.int (3 : Int32)), (.int (s0 &&& (7 : Int32)))]))
  by_cases c4 : (s0 &&& (7 : Int32)) = (3 : Int32)
  · refine own_go (fun _ hr => XS.icmpNo X0.here hx rfl (hb hby own_d_method_2_code_32) rfl (teq c4).2 hr) ?_
    show own_Go p e below _ (s₁.setTop (mkF m 35 #[.val (.int s0), .val (.int x0), .val (.int (s0 &&& (7 : Int32)))] []))
    refine own_go (fun _ hr => XS.bipush X0.here hx rfl (hb hby own_d_method_2_code_35) hr) ?_
    show own_Go p e below _ (s₁.setTop (mkF m 37 #[.val (.int s0), .val (.int x0), .val (.int (s0 &&& (7 : Int32)))] [(.int (13 : Int32))]))
    exact own_retI X0 hx hlk Bd.returns (hb hby own_d_method_2_code_37) (by decide) (by decide) ⟨(show some (Value.int (13 : Int32)) = some (Value.int (own_pick s0 x0)) by simp [own_pick, c1, c2, c3, c4]), N0, e0⟩
  refine own_go (fun _ hr => XS.icmpYes X0.here hx rfl (pc0 := 32) (pc' := 38) rfl (hb hby own_d_method_2_code_32) rfl (feq c4).2 (by decide) (by decide) hr) ?_
  show own_Go p e below _ (s₁.setTop (mkF m 38 #[.val (.int s0), .val (.int x0), .val (.int (s0 &&& (7 : Int32)))] []))
  refine own_go (fun _ hr => XS.iloadN X0.here hx rfl (hb hby own_d_method_2_code_38) rfl (XS.iconst X0.here hx rfl (hb hby own_d_method_2_code_39) hr)) ?_
  show own_Go p e below _ (s₁.setTop (mkF m 40 #[.val (.int s0), .val (.int x0), .val (.int (s0 &&& (7 : Int32)))] [(.int (4 : Int32)), (.int (s0 &&& (7 : Int32)))]))
  by_cases c5 : (s0 &&& (7 : Int32)) = (4 : Int32)
  · refine own_go (fun _ hr => XS.icmpNo X0.here hx rfl (hb hby own_d_method_2_code_40) rfl (teq c5).2 hr) ?_
    show own_Go p e below _ (s₁.setTop (mkF m 43 #[.val (.int s0), .val (.int x0), .val (.int (s0 &&& (7 : Int32)))] []))
    refine own_go (X0.ldcInt hx hown (mvT hZ (hw _ (own_m 15 rfl))) rfl (hb hby own_d_method_2_code_43)) ?_
    show own_Go p e below _ (s₁.setTop (mkF m 45 #[.val (.int s0), .val (.int x0), .val (.int (s0 &&& (7 : Int32)))] [(.int (65546 : Int32))]))
    exact own_retI X0 hx hlk Bd.returns (hb hby own_d_method_2_code_45) (by decide) (by decide) ⟨(show some (Value.int (65546 : Int32)) = some (Value.int (own_pick s0 x0)) by simp [own_pick, c1, c2, c3, c4, c5]), N0, e0⟩
  refine own_go (fun _ hr => XS.icmpYes X0.here hx rfl (pc0 := 40) (pc' := 46) rfl (hb hby own_d_method_2_code_40) rfl (feq c5).2 (by decide) (by decide) hr) ?_
  show own_Go p e below _ (s₁.setTop (mkF m 46 #[.val (.int s0), .val (.int x0), .val (.int (s0 &&& (7 : Int32)))] []))
  refine own_go (fun _ hr => XS.iloadN X0.here hx rfl (hb hby own_d_method_2_code_46) rfl (XS.iconst X0.here hx rfl (hb hby own_d_method_2_code_47) hr)) ?_
  show own_Go p e below _ (s₁.setTop (mkF m 48 #[.val (.int s0), .val (.int x0), .val (.int (s0 &&& (7 : Int32)))] [(.int (5 : Int32)), (.int (s0 &&& (7 : Int32)))]))
  by_cases c6 : (s0 &&& (7 : Int32)) = (5 : Int32)
  · refine own_go (fun _ hr => XS.icmpNo X0.here hx rfl (hb hby own_d_method_2_code_48) rfl (teq c6).2 hr) ?_
    show own_Go p e below _ (s₁.setTop (mkF m 51 #[.val (.int s0), .val (.int x0), .val (.int (s0 &&& (7 : Int32)))] []))
    refine own_go (X0.ldcInt hx hown (mvT hZ (hw _ (own_m 21 rfl))) rfl (hb hby own_d_method_2_code_51)) ?_
    show own_Go p e below _ (s₁.setTop (mkF m 53 #[.val (.int s0), .val (.int x0), .val (.int (s0 &&& (7 : Int32)))] [(.int (65669 : Int32))]))
    exact own_retI X0 hx hlk Bd.returns (hb hby own_d_method_2_code_53) (by decide) (by decide) ⟨(show some (Value.int (65669 : Int32)) = some (Value.int (own_pick s0 x0)) by simp [own_pick, c1, c2, c3, c4, c5, c6]), N0, e0⟩
  refine own_go (fun _ hr => XS.icmpYes X0.here hx rfl (pc0 := 48) (pc' := 54) rfl (hb hby own_d_method_2_code_48) rfl (feq c6).2 (by decide) (by decide) hr) ?_
  show own_Go p e below _ (s₁.setTop (mkF m 54 #[.val (.int s0), .val (.int x0), .val (.int (s0 &&& (7 : Int32)))] []))
  refine own_go (fun _ hr => XS.iloadN X0.here hx rfl (hb hby own_d_method_2_code_54) rfl hr) ?_
  show own_Go p e below _ (s₁.setTop (mkF m 55 #[.val (.int s0), .val (.int x0), .val (.int (s0 &&& (7 : Int32)))] [(.int x0)]))
  exact own_retI X0 hx hlk Bd.returns (hb hby own_d_method_2_code_55) (by decide) (by decide) ⟨(show some (Value.int x0) = some (Value.int (own_pick s0 x0)) by simp [own_pick, c1, c2, c3, c4, c5, c6]), N0, e0⟩
theorem own_d_prog_20_method_7_code_0 : decode prog_20_method_7_code 0 = .ok (.iload_n 1, 1) := by decide +kernel
theorem own_d_prog_20_method_7_code_1 : decode prog_20_method_7_code 1 = .ok (.bipush 10, 2) := by decide +kernel
theorem own_d_prog_20_method_7_code_3 : decode prog_20_method_7_code 3 = .ok (.if_icmp .eq 17, 3) := by decide +kernel
theorem own_d_prog_20_method_7_code_20 : decode prog_20_method_7_code 20 = .ok (.iconst 1, 1) := by decide +kernel
theorem own_d_prog_20_method_7_code_21 : decode prog_20_method_7_code 21 = .ok (.goto 4, 3) := by decide +kernel
theorem own_d_prog_20_method_7_code_25 : decode prog_20_method_7_code 25 = .ok (.ireturn, 1) := by decide +kernel
theorem own_d_prog_20_method_7_code_6 : decode prog_20_method_7_code 6 = .ok (.aload_n 0, 1) := by decide +kernel
theorem own_d_prog_20_method_7_code_7 : decode prog_20_method_7_code 7 = .ok (.getstatic 7, 3) := by decide +kernel
theorem own_d_prog_20_method_7_code_10 : decode prog_20_method_7_code 10 = .ok (.if_acmp .ne 14, 3) := by decide +kernel
theorem own_d_prog_20_method_7_code_24 : decode prog_20_method_7_code 24 = .ok (.iconst 0, 1) := by decide +kernel
theorem own_pn_com_example_fitzroy_fitzroy_XmlVersion : plainName "com/example/fitzroy/fitzroy/XmlVersion" = true := by first | (simp [plainName, overriddenIn]; done) | decide +kernel
def Q_w0 (Z : State) (c0 : Int32) (h0 : Heap) (n0 : Nat) (v : Option Value) (h : Heap) (L : List Loc) : Prop := v = some (.int (own_w0 c0)) ∧ Fr n0 L ∧ h = h0
set_option maxRecDepth 65536 in
set_option maxHeartbeats 40000000 in
theorem rm_w0 (l : Launch) (Z : State) (a0 : Array Value) (hw : ∀ d ∈ tables_1, d.before a0 Z = true) (ws : List Jvm.Cond) (c0 : Int32) (r_V1_0 : Addr) (r_V1_1 : Addr) (h0 : Heap) (n0 : Nat) (Z0 : n0 ≤ h0.size) (S_V1_0 : Sta Z h0 "com/example/fitzroy/fitzroy/XmlVersion" "V1_0" "Lcom/example/fitzroy/fitzroy/XmlVersion;" (.ref r_V1_0)) (E_V1_0 : Exa Z h0 r_V1_0 "com/example/fitzroy/fitzroy/XmlVersion") (S_V1_1 : Sta Z h0 "com/example/fitzroy/fitzroy/XmlVersion" "V1_1" "Lcom/example/fitzroy/fitzroy/XmlVersion;" (.ref r_V1_1)) (E_V1_1 : Exa Z h0 r_V1_1 "com/example/fitzroy/fitzroy/XmlVersion") (ne_V1_0_V1_1 : r_V1_0 ≠ r_V1_1) :
    MetFree l (⟨"com/example/fitzroy/fitzroy/XmlVersion", "endsLineWithCarriageReturn", "(I)Z"⟩ : MethodName) (head1 (Jvm.Cond.code (⟨"com/example/fitzroy/fitzroy/XmlVersion", "endsLineWithCarriageReturn", "(I)Z"⟩ : MethodName) prog_20_method_7_code 2 (some .boolean) :: ws) ({ frames := 0, cells := 0, slots := 0, locals := 0 } : Room)) (fun a U => a = #[(.ref r_V1_0), (.int c0)] ∧ Z.Warmed39 U.vm ∧ U.heap = h0) (fun _ _ _ _ _ => True) (fun _ U o U' => ∃ v L, o = .returned v ∧ Q_w0 Z c0 h0 n0 v U'.heap L ∧ FrameEnd U o U' L ({ frames := 0, cells := 0, slots := 0, locals := 0 } : Room).cells ({ frames := 0, cells := 0, slots := 0, locals := 0 } : Room).slots) := by
  refine MetFree.of_bodySF (plainFor_of_name own_pn_com_example_fitzroy_fitzroy_XmlVersion) hisR ?_
  intro p e s m args below meth c s₁ Bd hml0 hP hK
  obtain ⟨rfl, hZ, hh⟩ := hP
  have hx := Bd.exec
  have hby := Bd.bytes
  have hlk : meth.locks = false := BodyLoose.notSynchronized Bd
  have hml : c.maxLocals = 2 := hml0
  have hown : s.vm.findClass "com/example/fitzroy/fitzroy/XmlVersion" = some m.cls := findClass_of_methodNamed Bd.named
  have hnm := (name_of_methodNamed Bd.named Bd.method).1
  have X0 : Stand p l e ({ frames := 0, cells := 0, slots := 0, locals := 0 } : Room) s m #[(.ref r_V1_0), (.int c0)] below meth c s₁ [] 0 0 := Stand.of_body Bd
  have e0 : s₁.heap = h0 := by rw [← hh, Bd.state]; rfl
  have N0 := Fr.nil n0
  show own_Go p e below (own_K s (Q_w0 Z c0 h0 n0) ({ frames := 0, cells := 0, slots := 0, locals := 0 } : Room).cells ({ frames := 0, cells := 0, slots := 0, locals := 0 } : Room).slots) (s₁.setTop (entryFrame m #[(.ref r_V1_0), (.int c0)] 2))
  rw [(by first | (simp [entryFrame, mkF, argsToLocals, Value.category]; done) | rfl : entryFrame m #[(.ref r_V1_0), (.int c0)] 2 = mkF m 0 #[.val (.ref r_V1_0), .val (.int c0)] [])]
  show own_Go p e below _ (s₁.setTop (mkF m 0 #[.val (.ref r_V1_0), .val (.int c0)] []))
  refine own_go (fun _ hr => XS.iloadN X0.here hx rfl (hb hby own_d_prog_20_method_7_code_0) rfl (XS.bipush X0.here hx rfl (hb hby own_d_prog_20_method_7_code_1) hr)) ?_
  show own_Go p e below _ (s₁.setTop (mkF m 3 #[.val (.ref r_V1_0), .val (.int c0)] [(.int (10 : Int32)), (.int c0)]))
  by_cases c1 : c0 = (10 : Int32)
  · refine own_go (fun _ hr => XS.icmpYes X0.here hx rfl (pc0 := 3) (pc' := 20) rfl (hb hby own_d_prog_20_method_7_code_3) rfl (teq c1).1 (by decide) (by decide) hr) ?_
    show own_Go p e below _ (s₁.setTop (mkF m 20 #[.val (.ref r_V1_0), .val (.int c0)] []))
    refine own_go (fun _ hr => XS.iconst X0.here hx rfl (hb hby own_d_prog_20_method_7_code_20) (XS.goto X0.here hx rfl (pc0 := 21) (pc' := 25) rfl (hb hby own_d_prog_20_method_7_code_21) (by decide) (by decide) hr)) ?_
    show own_Go p e below _ (s₁.setTop (mkF m 25 #[.val (.ref r_V1_0), .val (.int c0)] [(.int (1 : Int32))]))
    exact own_retN X0 hx hlk Bd.returns (t := .boolean) (by simp) (hb hby own_d_prog_20_method_7_code_25) (by decide) (by decide) ⟨(show some (Value.int (1 : Int32)) = some (Value.int (own_w0 c0)) by simp [own_w0, c1]), N0, e0⟩
  refine own_go (fun _ hr => XS.icmpNo X0.here hx rfl (hb hby own_d_prog_20_method_7_code_3) rfl (feq c1).1 hr) ?_
  show own_Go p e below _ (s₁.setTop (mkF m 6 #[.val (.ref r_V1_0), .val (.int c0)] []))
  refine own_go (fun _ hr => XS.aloadN X0.here hx rfl (hb hby own_d_prog_20_method_7_code_6) rfl rfl hr) ?_
  show own_Go p e below _ (s₁.setTop (mkF m 7 #[.val (.ref r_V1_0), .val (.int c0)] [(.ref r_V1_0)]))
  obtain ⟨T2, X2, e2, st2⟩ := getS2 X0 hx hZ hown (host := "") (Or.inl (hw _ (own_m 12 rfl))) Via.refl e0 S_V1_1 (g := (mkF m 7 #[.val (.ref r_V1_0), .val (.int c0)] [(.ref r_V1_0)])) rfl (hb hby own_d_prog_20_method_7_code_7)
  refine own_go st2 ?_
  show own_Go p e below _ (T2.setTop (mkF m 10 #[.val (.ref r_V1_0), .val (.int c0)] [(.ref r_V1_1), (.ref r_V1_0)]))
  refine own_go (fun _ hr => Jvm.RoadKit.acmp X2 hx rfl rfl rfl (pc0 := 10) (pc' := 24) (same := false) rfl (hb hby own_d_prog_20_method_7_code_10) rfl (decide_eq_false fun q => ne_V1_0_V1_1 (Value.ref.inj q)) (by decide) (by decide) hr) ?_
  show own_Go p e below _ (T2.setTop (mkF m 24 #[.val (.ref r_V1_0), .val (.int c0)] []))
  refine own_go (fun _ hr => XS.iconst X2.here hx rfl (hb hby own_d_prog_20_method_7_code_24) hr) ?_
  show own_Go p e below _ (T2.setTop (mkF m 25 #[.val (.ref r_V1_0), .val (.int c0)] [(.int (0 : Int32))]))
  exact own_retN X2 hx hlk Bd.returns (t := .boolean) (by simp) (hb hby own_d_prog_20_method_7_code_25) (by decide) (by decide) ⟨(show some (Value.int (0 : Int32)) = some (Value.int (own_w0 c0)) by simp [own_w0, c1]), N0, e2⟩
theorem own_d_prog_20_method_7_code_13 : decode prog_20_method_7_code 13 = .ok (.iload_n 1, 1) := by decide +kernel
theorem own_d_prog_20_method_7_code_14 : decode prog_20_method_7_code 14 = .ok (.sipush 133, 3) := by decide +kernel
theorem own_d_prog_20_method_7_code_17 : decode prog_20_method_7_code 17 = .ok (.if_icmp .ne 7, 3) := by decide +kernel
def Q_w1 (Z : State) (c0 : Int32) (h0 : Heap) (n0 : Nat) (v : Option Value) (h : Heap) (L : List Loc) : Prop := v = some (.int (own_w1 c0)) ∧ Fr n0 L ∧ h = h0
set_option maxRecDepth 65536 in
set_option maxHeartbeats 40000000 in
theorem rm_w1 (l : Launch) (Z : State) (a0 : Array Value) (hw : ∀ d ∈ tables_1, d.before a0 Z = true) (ws : List Jvm.Cond) (c0 : Int32) (r_V1_0 : Addr) (r_V1_1 : Addr) (h0 : Heap) (n0 : Nat) (Z0 : n0 ≤ h0.size) (S_V1_0 : Sta Z h0 "com/example/fitzroy/fitzroy/XmlVersion" "V1_0" "Lcom/example/fitzroy/fitzroy/XmlVersion;" (.ref r_V1_0)) (E_V1_0 : Exa Z h0 r_V1_0 "com/example/fitzroy/fitzroy/XmlVersion") (S_V1_1 : Sta Z h0 "com/example/fitzroy/fitzroy/XmlVersion" "V1_1" "Lcom/example/fitzroy/fitzroy/XmlVersion;" (.ref r_V1_1)) (E_V1_1 : Exa Z h0 r_V1_1 "com/example/fitzroy/fitzroy/XmlVersion") (ne_V1_0_V1_1 : r_V1_0 ≠ r_V1_1) :
    MetFree l (⟨"com/example/fitzroy/fitzroy/XmlVersion", "endsLineWithCarriageReturn", "(I)Z"⟩ : MethodName) (head1 (Jvm.Cond.code (⟨"com/example/fitzroy/fitzroy/XmlVersion", "endsLineWithCarriageReturn", "(I)Z"⟩ : MethodName) prog_20_method_7_code 2 (some .boolean) :: ws) ({ frames := 0, cells := 0, slots := 0, locals := 0 } : Room)) (fun a U => a = #[(.ref r_V1_1), (.int c0)] ∧ Z.Warmed39 U.vm ∧ U.heap = h0) (fun _ _ _ _ _ => True) (fun _ U o U' => ∃ v L, o = .returned v ∧ Q_w1 Z c0 h0 n0 v U'.heap L ∧ FrameEnd U o U' L ({ frames := 0, cells := 0, slots := 0, locals := 0 } : Room).cells ({ frames := 0, cells := 0, slots := 0, locals := 0 } : Room).slots) := by
  refine MetFree.of_bodySF (plainFor_of_name own_pn_com_example_fitzroy_fitzroy_XmlVersion) hisR ?_
  intro p e s m args below meth c s₁ Bd hml0 hP hK
  obtain ⟨rfl, hZ, hh⟩ := hP
  have hx := Bd.exec
  have hby := Bd.bytes
  have hlk : meth.locks = false := BodyLoose.notSynchronized Bd
  have hml : c.maxLocals = 2 := hml0
  have hown : s.vm.findClass "com/example/fitzroy/fitzroy/XmlVersion" = some m.cls := findClass_of_methodNamed Bd.named
  have hnm := (name_of_methodNamed Bd.named Bd.method).1
  have X0 : Stand p l e ({ frames := 0, cells := 0, slots := 0, locals := 0 } : Room) s m #[(.ref r_V1_1), (.int c0)] below meth c s₁ [] 0 0 := Stand.of_body Bd
  have e0 : s₁.heap = h0 := by rw [← hh, Bd.state]; rfl
  have N0 := Fr.nil n0
  show own_Go p e below (own_K s (Q_w1 Z c0 h0 n0) ({ frames := 0, cells := 0, slots := 0, locals := 0 } : Room).cells ({ frames := 0, cells := 0, slots := 0, locals := 0 } : Room).slots) (s₁.setTop (entryFrame m #[(.ref r_V1_1), (.int c0)] 2))
  rw [(by first | (simp [entryFrame, mkF, argsToLocals, Value.category]; done) | rfl : entryFrame m #[(.ref r_V1_1), (.int c0)] 2 = mkF m 0 #[.val (.ref r_V1_1), .val (.int c0)] [])]
  show own_Go p e below _ (s₁.setTop (mkF m 0 #[.val (.ref r_V1_1), .val (.int c0)] []))
  refine own_go (fun _ hr => XS.iloadN X0.here hx rfl (hb hby own_d_prog_20_method_7_code_0) rfl (XS.bipush X0.here hx rfl (hb hby own_d_prog_20_method_7_code_1) hr)) ?_
  show own_Go p e below _ (s₁.setTop (mkF m 3 #[.val (.ref r_V1_1), .val (.int c0)] [(.int (10 : Int32)), (.int c0)]))
  by_cases c1 : c0 = (10 : Int32)
  · refine own_go (fun _ hr => XS.icmpYes X0.here hx rfl (pc0 := 3) (pc' := 20) rfl (hb hby own_d_prog_20_method_7_code_3) rfl (teq c1).1 (by decide) (by decide) hr) ?_
    show own_Go p e below _ (s₁.setTop (mkF m 20 #[.val (.ref r_V1_1), .val (.int c0)] []))
    refine own_go (fun _ hr => XS.iconst X0.here hx rfl (hb hby own_d_prog_20_method_7_code_20) (XS.goto X0.here hx rfl (pc0 := 21) (pc' := 25) rfl (hb hby own_d_prog_20_method_7_code_21) (by decide) (by decide) hr)) ?_
    show own_Go p e below _ (s₁.setTop (mkF m 25 #[.val (.ref r_V1_1), .val (.int c0)] [(.int (1 : Int32))]))
    exact own_retN X0 hx hlk Bd.returns (t := .boolean) (by simp) (hb hby own_d_prog_20_method_7_code_25) (by decide) (by decide) ⟨(show some (Value.int (1 : Int32)) = some (Value.int (own_w1 c0)) by simp [own_w1, c1]), N0, e0⟩
  refine own_go (fun _ hr => XS.icmpNo X0.here hx rfl (hb hby own_d_prog_20_method_7_code_3) rfl (feq c1).1 hr) ?_
  show own_Go p e below _ (s₁.setTop (mkF m 6 #[.val (.ref r_V1_1), .val (.int c0)] []))
  refine own_go (fun _ hr => XS.aloadN X0.here hx rfl (hb hby own_d_prog_20_method_7_code_6) rfl rfl hr) ?_
  show own_Go p e below _ (s₁.setTop (mkF m 7 #[.val (.ref r_V1_1), .val (.int c0)] [(.ref r_V1_1)]))
  obtain ⟨T2, X2, e2, st2⟩ := getS2 X0 hx hZ hown (host := "") (Or.inl (hw _ (own_m 12 rfl))) Via.refl e0 S_V1_1 (g := (mkF m 7 #[.val (.ref r_V1_1), .val (.int c0)] [(.ref r_V1_1)])) rfl (hb hby own_d_prog_20_method_7_code_7)
  refine own_go st2 ?_
  show own_Go p e below _ (T2.setTop (mkF m 10 #[.val (.ref r_V1_1), .val (.int c0)] [(.ref r_V1_1), (.ref r_V1_1)]))
  refine own_go (fun _ hr => Jvm.RoadKit.acmp X2 hx rfl rfl rfl (pc0 := 10) (pc' := 13) (same := true) rfl (hb hby own_d_prog_20_method_7_code_10) rfl (decide_eq_true rfl) (by decide) (by decide) hr) ?_
  show own_Go p e below _ (T2.setTop (mkF m 13 #[.val (.ref r_V1_1), .val (.int c0)] []))
  refine own_go (fun _ hr => XS.iloadN X2.here hx rfl (hb hby own_d_prog_20_method_7_code_13) rfl (XS.sipush X2.here hx rfl (hb hby own_d_prog_20_method_7_code_14) hr)) ?_
  show own_Go p e below _ (T2.setTop (mkF m 17 #[.val (.ref r_V1_1), .val (.int c0)] [(.int (133 : Int32)), (.int c0)]))
  by_cases c3 : c0 = (133 : Int32)
  · refine own_go (fun _ hr => XS.icmpNo X2.here hx rfl (hb hby own_d_prog_20_method_7_code_17) rfl (teq c3).2 hr) ?_
    show own_Go p e below _ (T2.setTop (mkF m 20 #[.val (.ref r_V1_1), .val (.int c0)] []))
    refine own_go (fun _ hr => XS.iconst X2.here hx rfl (hb hby own_d_prog_20_method_7_code_20) (XS.goto X2.here hx rfl (pc0 := 21) (pc' := 25) rfl (hb hby own_d_prog_20_method_7_code_21) (by decide) (by decide) hr)) ?_
    show own_Go p e below _ (T2.setTop (mkF m 25 #[.val (.ref r_V1_1), .val (.int c0)] [(.int (1 : Int32))]))
    exact own_retN X2 hx hlk Bd.returns (t := .boolean) (by simp) (hb hby own_d_prog_20_method_7_code_25) (by decide) (by decide) ⟨(show some (Value.int (1 : Int32)) = some (Value.int (own_w1 c0)) by simp [own_w1, c1, c3]), N0, e2⟩
  refine own_go (fun _ hr => XS.icmpYes X2.here hx rfl (pc0 := 17) (pc' := 24) rfl (hb hby own_d_prog_20_method_7_code_17) rfl (feq c3).2 (by decide) (by decide) hr) ?_
  show own_Go p e below _ (T2.setTop (mkF m 24 #[.val (.ref r_V1_1), .val (.int c0)] []))
  refine own_go (fun _ hr => XS.iconst X2.here hx rfl (hb hby own_d_prog_20_method_7_code_24) hr) ?_
  show own_Go p e below _ (T2.setTop (mkF m 25 #[.val (.ref r_V1_1), .val (.int c0)] [(.int (0 : Int32))]))
  exact own_retN X2 hx hlk Bd.returns (t := .boolean) (by simp) (hb hby own_d_prog_20_method_7_code_25) (by decide) (by decide) ⟨(show some (Value.int (0 : Int32)) = some (Value.int (own_w1 c0)) by simp [own_w1, c1, c3]), N0, e2⟩
theorem own_d_prog_20_method_6_code_0 : decode prog_20_method_6_code 0 = .ok (.iload_n 1, 1) := by decide +kernel
theorem own_d_prog_20_method_6_code_1 : decode prog_20_method_6_code 1 = .ok (.bipush 10, 2) := by decide +kernel
theorem own_d_prog_20_method_6_code_3 : decode prog_20_method_6_code 3 = .ok (.if_icmp .eq 30, 3) := by decide +kernel
theorem own_d_prog_20_method_6_code_33 : decode prog_20_method_6_code 33 = .ok (.iconst 1, 1) := by decide +kernel
theorem own_d_prog_20_method_6_code_34 : decode prog_20_method_6_code 34 = .ok (.goto 4, 3) := by decide +kernel
theorem own_d_prog_20_method_6_code_38 : decode prog_20_method_6_code 38 = .ok (.ireturn, 1) := by decide +kernel
theorem own_d_prog_20_method_6_code_6 : decode prog_20_method_6_code 6 = .ok (.iload_n 1, 1) := by decide +kernel
theorem own_d_prog_20_method_6_code_7 : decode prog_20_method_6_code 7 = .ok (.bipush 13, 2) := by decide +kernel
theorem own_d_prog_20_method_6_code_9 : decode prog_20_method_6_code 9 = .ok (.if_icmp .eq 24, 3) := by decide +kernel
theorem own_d_prog_20_method_6_code_12 : decode prog_20_method_6_code 12 = .ok (.aload_n 0, 1) := by decide +kernel
theorem own_d_prog_20_method_6_code_13 : decode prog_20_method_6_code 13 = .ok (.getstatic 7, 3) := by decide +kernel
theorem own_d_prog_20_method_6_code_16 : decode prog_20_method_6_code 16 = .ok (.if_acmp .ne 21, 3) := by decide +kernel
theorem own_d_prog_20_method_6_code_37 : decode prog_20_method_6_code 37 = .ok (.iconst 0, 1) := by decide +kernel
def Q_l0 (Z : State) (c0 : Int32) (h0 : Heap) (n0 : Nat) (v : Option Value) (h : Heap) (L : List Loc) : Prop := v = some (.int (own_l0 c0)) ∧ Fr n0 L ∧ h = h0
set_option maxRecDepth 65536 in
set_option maxHeartbeats 40000000 in
theorem rm_l0 (l : Launch) (Z : State) (a0 : Array Value) (hw : ∀ d ∈ tables_1, d.before a0 Z = true) (ws : List Jvm.Cond) (c0 : Int32) (r_V1_0 : Addr) (r_V1_1 : Addr) (h0 : Heap) (n0 : Nat) (Z0 : n0 ≤ h0.size) (S_V1_0 : Sta Z h0 "com/example/fitzroy/fitzroy/XmlVersion" "V1_0" "Lcom/example/fitzroy/fitzroy/XmlVersion;" (.ref r_V1_0)) (E_V1_0 : Exa Z h0 r_V1_0 "com/example/fitzroy/fitzroy/XmlVersion") (S_V1_1 : Sta Z h0 "com/example/fitzroy/fitzroy/XmlVersion" "V1_1" "Lcom/example/fitzroy/fitzroy/XmlVersion;" (.ref r_V1_1)) (E_V1_1 : Exa Z h0 r_V1_1 "com/example/fitzroy/fitzroy/XmlVersion") (ne_V1_0_V1_1 : r_V1_0 ≠ r_V1_1) :
    MetFree l (⟨"com/example/fitzroy/fitzroy/XmlVersion", "endsLine", "(I)Z"⟩ : MethodName) (head1 (Jvm.Cond.code (⟨"com/example/fitzroy/fitzroy/XmlVersion", "endsLine", "(I)Z"⟩ : MethodName) prog_20_method_6_code 2 (some .boolean) :: ws) ({ frames := 0, cells := 0, slots := 0, locals := 0 } : Room)) (fun a U => a = #[(.ref r_V1_0), (.int c0)] ∧ Z.Warmed39 U.vm ∧ U.heap = h0) (fun _ _ _ _ _ => True) (fun _ U o U' => ∃ v L, o = .returned v ∧ Q_l0 Z c0 h0 n0 v U'.heap L ∧ FrameEnd U o U' L ({ frames := 0, cells := 0, slots := 0, locals := 0 } : Room).cells ({ frames := 0, cells := 0, slots := 0, locals := 0 } : Room).slots) := by
  refine MetFree.of_bodySF (plainFor_of_name own_pn_com_example_fitzroy_fitzroy_XmlVersion) hisR ?_
  intro p e s m args below meth c s₁ Bd hml0 hP hK
  obtain ⟨rfl, hZ, hh⟩ := hP
  have hx := Bd.exec
  have hby := Bd.bytes
  have hlk : meth.locks = false := BodyLoose.notSynchronized Bd
  have hml : c.maxLocals = 2 := hml0
  have hown : s.vm.findClass "com/example/fitzroy/fitzroy/XmlVersion" = some m.cls := findClass_of_methodNamed Bd.named
  have hnm := (name_of_methodNamed Bd.named Bd.method).1
  have X0 : Stand p l e ({ frames := 0, cells := 0, slots := 0, locals := 0 } : Room) s m #[(.ref r_V1_0), (.int c0)] below meth c s₁ [] 0 0 := Stand.of_body Bd
  have e0 : s₁.heap = h0 := by rw [← hh, Bd.state]; rfl
  have N0 := Fr.nil n0
  show own_Go p e below (own_K s (Q_l0 Z c0 h0 n0) ({ frames := 0, cells := 0, slots := 0, locals := 0 } : Room).cells ({ frames := 0, cells := 0, slots := 0, locals := 0 } : Room).slots) (s₁.setTop (entryFrame m #[(.ref r_V1_0), (.int c0)] 2))
  rw [(by first | (simp [entryFrame, mkF, argsToLocals, Value.category]; done) | rfl : entryFrame m #[(.ref r_V1_0), (.int c0)] 2 = mkF m 0 #[.val (.ref r_V1_0), .val (.int c0)] [])]
  show own_Go p e below _ (s₁.setTop (mkF m 0 #[.val (.ref r_V1_0), .val (.int c0)] []))
  refine own_go (fun _ hr => XS.iloadN X0.here hx rfl (hb hby own_d_prog_20_method_6_code_0) rfl (XS.bipush X0.here hx rfl (hb hby own_d_prog_20_method_6_code_1) hr)) ?_
  show own_Go p e below _ (s₁.setTop (mkF m 3 #[.val (.ref r_V1_0), .val (.int c0)] [(.int (10 : Int32)), (.int c0)]))
  by_cases c1 : c0 = (10 : Int32)
  · refine own_go (fun _ hr => XS.icmpYes X0.here hx rfl (pc0 := 3) (pc' := 33) rfl (hb hby own_d_prog_20_method_6_code_3) rfl (teq c1).1 (by decide) (by decide) hr) ?_
    show own_Go p e below _ (s₁.setTop (mkF m 33 #[.val (.ref r_V1_0), .val (.int c0)] []))
    refine own_go (fun _ hr => XS.iconst X0.here hx rfl (hb hby own_d_prog_20_method_6_code_33) (XS.goto X0.here hx rfl (pc0 := 34) (pc' := 38) rfl (hb hby own_d_prog_20_method_6_code_34) (by decide) (by decide) hr)) ?_
    show own_Go p e below _ (s₁.setTop (mkF m 38 #[.val (.ref r_V1_0), .val (.int c0)] [(.int (1 : Int32))]))
    exact own_retN X0 hx hlk Bd.returns (t := .boolean) (by simp) (hb hby own_d_prog_20_method_6_code_38) (by decide) (by decide) ⟨(show some (Value.int (1 : Int32)) = some (Value.int (own_l0 c0)) by simp [own_l0, c1]), N0, e0⟩
  refine own_go (fun _ hr => XS.icmpNo X0.here hx rfl (hb hby own_d_prog_20_method_6_code_3) rfl (feq c1).1 hr) ?_
  show own_Go p e below _ (s₁.setTop (mkF m 6 #[.val (.ref r_V1_0), .val (.int c0)] []))
  refine own_go (fun _ hr => XS.iloadN X0.here hx rfl (hb hby own_d_prog_20_method_6_code_6) rfl (XS.bipush X0.here hx rfl (hb hby own_d_prog_20_method_6_code_7) hr)) ?_
  show own_Go p e below _ (s₁.setTop (mkF m 9 #[.val (.ref r_V1_0), .val (.int c0)] [(.int (13 : Int32)), (.int c0)]))
  by_cases c2 : c0 = (13 : Int32)
  · refine own_go (fun _ hr => XS.icmpYes X0.here hx rfl (pc0 := 9) (pc' := 33) rfl (hb hby own_d_prog_20_method_6_code_9) rfl (teq c2).1 (by decide) (by decide) hr) ?_
    show own_Go p e below _ (s₁.setTop (mkF m 33 #[.val (.ref r_V1_0), .val (.int c0)] []))
    refine own_go (fun _ hr => XS.iconst X0.here hx rfl (hb hby own_d_prog_20_method_6_code_33) (XS.goto X0.here hx rfl (pc0 := 34) (pc' := 38) rfl (hb hby own_d_prog_20_method_6_code_34) (by decide) (by decide) hr)) ?_
    show own_Go p e below _ (s₁.setTop (mkF m 38 #[.val (.ref r_V1_0), .val (.int c0)] [(.int (1 : Int32))]))
    exact own_retN X0 hx hlk Bd.returns (t := .boolean) (by simp) (hb hby own_d_prog_20_method_6_code_38) (by decide) (by decide) ⟨(show some (Value.int (1 : Int32)) = some (Value.int (own_l0 c0)) by simp [own_l0, c1, c2]), N0, e0⟩
  refine own_go (fun _ hr => XS.icmpNo X0.here hx rfl (hb hby own_d_prog_20_method_6_code_9) rfl (feq c2).1 hr) ?_
  show own_Go p e below _ (s₁.setTop (mkF m 12 #[.val (.ref r_V1_0), .val (.int c0)] []))
  refine own_go (fun _ hr => XS.aloadN X0.here hx rfl (hb hby own_d_prog_20_method_6_code_12) rfl rfl hr) ?_
  show own_Go p e below _ (s₁.setTop (mkF m 13 #[.val (.ref r_V1_0), .val (.int c0)] [(.ref r_V1_0)]))
  obtain ⟨T3, X3, e3, st3⟩ := getS2 X0 hx hZ hown (host := "") (Or.inl (hw _ (own_m 12 rfl))) Via.refl e0 S_V1_1 (g := (mkF m 13 #[.val (.ref r_V1_0), .val (.int c0)] [(.ref r_V1_0)])) rfl (hb hby own_d_prog_20_method_6_code_13)
  refine own_go st3 ?_
  show own_Go p e below _ (T3.setTop (mkF m 16 #[.val (.ref r_V1_0), .val (.int c0)] [(.ref r_V1_1), (.ref r_V1_0)]))
  refine own_go (fun _ hr => Jvm.RoadKit.acmp X3 hx rfl rfl rfl (pc0 := 16) (pc' := 37) (same := false) rfl (hb hby own_d_prog_20_method_6_code_16) rfl (decide_eq_false fun q => ne_V1_0_V1_1 (Value.ref.inj q)) (by decide) (by decide) hr) ?_
  show own_Go p e below _ (T3.setTop (mkF m 37 #[.val (.ref r_V1_0), .val (.int c0)] []))
  refine own_go (fun _ hr => XS.iconst X3.here hx rfl (hb hby own_d_prog_20_method_6_code_37) hr) ?_
  show own_Go p e below _ (T3.setTop (mkF m 38 #[.val (.ref r_V1_0), .val (.int c0)] [(.int (0 : Int32))]))
  exact own_retN X3 hx hlk Bd.returns (t := .boolean) (by simp) (hb hby own_d_prog_20_method_6_code_38) (by decide) (by decide) ⟨(show some (Value.int (0 : Int32)) = some (Value.int (own_l0 c0)) by simp [own_l0, c1, c2]), N0, e3⟩
theorem own_d_prog_20_method_6_code_19 : decode prog_20_method_6_code 19 = .ok (.iload_n 1, 1) := by decide +kernel
theorem own_d_prog_20_method_6_code_20 : decode prog_20_method_6_code 20 = .ok (.sipush 133, 3) := by decide +kernel
theorem own_d_prog_20_method_6_code_23 : decode prog_20_method_6_code 23 = .ok (.if_icmp .eq 10, 3) := by decide +kernel
theorem own_d_prog_20_method_6_code_26 : decode prog_20_method_6_code 26 = .ok (.iload_n 1, 1) := by decide +kernel
theorem own_d_prog_20_method_6_code_27 : decode prog_20_method_6_code 27 = .ok (.sipush 8232, 3) := by decide +kernel
theorem own_d_prog_20_method_6_code_30 : decode prog_20_method_6_code 30 = .ok (.if_icmp .ne 7, 3) := by decide +kernel
def Q_l1 (Z : State) (c0 : Int32) (h0 : Heap) (n0 : Nat) (v : Option Value) (h : Heap) (L : List Loc) : Prop := v = some (.int (own_l1 c0)) ∧ Fr n0 L ∧ h = h0
set_option maxRecDepth 65536 in
set_option maxHeartbeats 40000000 in
theorem rm_l1 (l : Launch) (Z : State) (a0 : Array Value) (hw : ∀ d ∈ tables_1, d.before a0 Z = true) (ws : List Jvm.Cond) (c0 : Int32) (r_V1_0 : Addr) (r_V1_1 : Addr) (h0 : Heap) (n0 : Nat) (Z0 : n0 ≤ h0.size) (S_V1_0 : Sta Z h0 "com/example/fitzroy/fitzroy/XmlVersion" "V1_0" "Lcom/example/fitzroy/fitzroy/XmlVersion;" (.ref r_V1_0)) (E_V1_0 : Exa Z h0 r_V1_0 "com/example/fitzroy/fitzroy/XmlVersion") (S_V1_1 : Sta Z h0 "com/example/fitzroy/fitzroy/XmlVersion" "V1_1" "Lcom/example/fitzroy/fitzroy/XmlVersion;" (.ref r_V1_1)) (E_V1_1 : Exa Z h0 r_V1_1 "com/example/fitzroy/fitzroy/XmlVersion") (ne_V1_0_V1_1 : r_V1_0 ≠ r_V1_1) :
    MetFree l (⟨"com/example/fitzroy/fitzroy/XmlVersion", "endsLine", "(I)Z"⟩ : MethodName) (head1 (Jvm.Cond.code (⟨"com/example/fitzroy/fitzroy/XmlVersion", "endsLine", "(I)Z"⟩ : MethodName) prog_20_method_6_code 2 (some .boolean) :: ws) ({ frames := 0, cells := 0, slots := 0, locals := 0 } : Room)) (fun a U => a = #[(.ref r_V1_1), (.int c0)] ∧ Z.Warmed39 U.vm ∧ U.heap = h0) (fun _ _ _ _ _ => True) (fun _ U o U' => ∃ v L, o = .returned v ∧ Q_l1 Z c0 h0 n0 v U'.heap L ∧ FrameEnd U o U' L ({ frames := 0, cells := 0, slots := 0, locals := 0 } : Room).cells ({ frames := 0, cells := 0, slots := 0, locals := 0 } : Room).slots) := by
  refine MetFree.of_bodySF (plainFor_of_name own_pn_com_example_fitzroy_fitzroy_XmlVersion) hisR ?_
  intro p e s m args below meth c s₁ Bd hml0 hP hK
  obtain ⟨rfl, hZ, hh⟩ := hP
  have hx := Bd.exec
  have hby := Bd.bytes
  have hlk : meth.locks = false := BodyLoose.notSynchronized Bd
  have hml : c.maxLocals = 2 := hml0
  have hown : s.vm.findClass "com/example/fitzroy/fitzroy/XmlVersion" = some m.cls := findClass_of_methodNamed Bd.named
  have hnm := (name_of_methodNamed Bd.named Bd.method).1
  have X0 : Stand p l e ({ frames := 0, cells := 0, slots := 0, locals := 0 } : Room) s m #[(.ref r_V1_1), (.int c0)] below meth c s₁ [] 0 0 := Stand.of_body Bd
  have e0 : s₁.heap = h0 := by rw [← hh, Bd.state]; rfl
  have N0 := Fr.nil n0
  show own_Go p e below (own_K s (Q_l1 Z c0 h0 n0) ({ frames := 0, cells := 0, slots := 0, locals := 0 } : Room).cells ({ frames := 0, cells := 0, slots := 0, locals := 0 } : Room).slots) (s₁.setTop (entryFrame m #[(.ref r_V1_1), (.int c0)] 2))
  rw [(by first | (simp [entryFrame, mkF, argsToLocals, Value.category]; done) | rfl : entryFrame m #[(.ref r_V1_1), (.int c0)] 2 = mkF m 0 #[.val (.ref r_V1_1), .val (.int c0)] [])]
  show own_Go p e below _ (s₁.setTop (mkF m 0 #[.val (.ref r_V1_1), .val (.int c0)] []))
  refine own_go (fun _ hr => XS.iloadN X0.here hx rfl (hb hby own_d_prog_20_method_6_code_0) rfl (XS.bipush X0.here hx rfl (hb hby own_d_prog_20_method_6_code_1) hr)) ?_
  show own_Go p e below _ (s₁.setTop (mkF m 3 #[.val (.ref r_V1_1), .val (.int c0)] [(.int (10 : Int32)), (.int c0)]))
  by_cases c1 : c0 = (10 : Int32)
  · refine own_go (fun _ hr => XS.icmpYes X0.here hx rfl (pc0 := 3) (pc' := 33) rfl (hb hby own_d_prog_20_method_6_code_3) rfl (teq c1).1 (by decide) (by decide) hr) ?_
    show own_Go p e below _ (s₁.setTop (mkF m 33 #[.val (.ref r_V1_1), .val (.int c0)] []))
    refine own_go (fun _ hr => XS.iconst X0.here hx rfl (hb hby own_d_prog_20_method_6_code_33) (XS.goto X0.here hx rfl (pc0 := 34) (pc' := 38) rfl (hb hby own_d_prog_20_method_6_code_34) (by decide) (by decide) hr)) ?_
    show own_Go p e below _ (s₁.setTop (mkF m 38 #[.val (.ref r_V1_1), .val (.int c0)] [(.int (1 : Int32))]))
    exact own_retN X0 hx hlk Bd.returns (t := .boolean) (by simp) (hb hby own_d_prog_20_method_6_code_38) (by decide) (by decide) ⟨(show some (Value.int (1 : Int32)) = some (Value.int (own_l1 c0)) by simp [own_l1, c1]), N0, e0⟩
  refine own_go (fun _ hr => XS.icmpNo X0.here hx rfl (hb hby own_d_prog_20_method_6_code_3) rfl (feq c1).1 hr) ?_
  show own_Go p e below _ (s₁.setTop (mkF m 6 #[.val (.ref r_V1_1), .val (.int c0)] []))
  refine own_go (fun _ hr => XS.iloadN X0.here hx rfl (hb hby own_d_prog_20_method_6_code_6) rfl (XS.bipush X0.here hx rfl (hb hby own_d_prog_20_method_6_code_7) hr)) ?_
  show own_Go p e below _ (s₁.setTop (mkF m 9 #[.val (.ref r_V1_1), .val (.int c0)] [(.int (13 : Int32)), (.int c0)]))
  by_cases c2 : c0 = (13 : Int32)
  · refine own_go (fun _ hr => XS.icmpYes X0.here hx rfl (pc0 := 9) (pc' := 33) rfl (hb hby own_d_prog_20_method_6_code_9) rfl (teq c2).1 (by decide) (by decide) hr) ?_
    show own_Go p e below _ (s₁.setTop (mkF m 33 #[.val (.ref r_V1_1), .val (.int c0)] []))
    refine own_go (fun _ hr => XS.iconst X0.here hx rfl (hb hby own_d_prog_20_method_6_code_33) (XS.goto X0.here hx rfl (pc0 := 34) (pc' := 38) rfl (hb hby own_d_prog_20_method_6_code_34) (by decide) (by decide) hr)) ?_
    show own_Go p e below _ (s₁.setTop (mkF m 38 #[.val (.ref r_V1_1), .val (.int c0)] [(.int (1 : Int32))]))
    exact own_retN X0 hx hlk Bd.returns (t := .boolean) (by simp) (hb hby own_d_prog_20_method_6_code_38) (by decide) (by decide) ⟨(show some (Value.int (1 : Int32)) = some (Value.int (own_l1 c0)) by simp [own_l1, c1, c2]), N0, e0⟩
  refine own_go (fun _ hr => XS.icmpNo X0.here hx rfl (hb hby own_d_prog_20_method_6_code_9) rfl (feq c2).1 hr) ?_
  show own_Go p e below _ (s₁.setTop (mkF m 12 #[.val (.ref r_V1_1), .val (.int c0)] []))
  refine own_go (fun _ hr => XS.aloadN X0.here hx rfl (hb hby own_d_prog_20_method_6_code_12) rfl rfl hr) ?_
  show own_Go p e below _ (s₁.setTop (mkF m 13 #[.val (.ref r_V1_1), .val (.int c0)] [(.ref r_V1_1)]))
  obtain ⟨T3, X3, e3, st3⟩ := getS2 X0 hx hZ hown (host := "") (Or.inl (hw _ (own_m 12 rfl))) Via.refl e0 S_V1_1 (g := (mkF m 13 #[.val (.ref r_V1_1), .val (.int c0)] [(.ref r_V1_1)])) rfl (hb hby own_d_prog_20_method_6_code_13)
  refine own_go st3 ?_
  show own_Go p e below _ (T3.setTop (mkF m 16 #[.val (.ref r_V1_1), .val (.int c0)] [(.ref r_V1_1), (.ref r_V1_1)]))
  refine own_go (fun _ hr => Jvm.RoadKit.acmp X3 hx rfl rfl rfl (pc0 := 16) (pc' := 19) (same := true) rfl (hb hby own_d_prog_20_method_6_code_16) rfl (decide_eq_true rfl) (by decide) (by decide) hr) ?_
  show own_Go p e below _ (T3.setTop (mkF m 19 #[.val (.ref r_V1_1), .val (.int c0)] []))
  refine own_go (fun _ hr => XS.iloadN X3.here hx rfl (hb hby own_d_prog_20_method_6_code_19) rfl (XS.sipush X3.here hx rfl (hb hby own_d_prog_20_method_6_code_20) hr)) ?_
  show own_Go p e below _ (T3.setTop (mkF m 23 #[.val (.ref r_V1_1), .val (.int c0)] [(.int (133 : Int32)), (.int c0)]))
  by_cases c4 : c0 = (133 : Int32)
  · refine own_go (fun _ hr => XS.icmpYes X3.here hx rfl (pc0 := 23) (pc' := 33) rfl (hb hby own_d_prog_20_method_6_code_23) rfl (teq c4).1 (by decide) (by decide) hr) ?_
    show own_Go p e below _ (T3.setTop (mkF m 33 #[.val (.ref r_V1_1), .val (.int c0)] []))
    refine own_go (fun _ hr => XS.iconst X3.here hx rfl (hb hby own_d_prog_20_method_6_code_33) (XS.goto X3.here hx rfl (pc0 := 34) (pc' := 38) rfl (hb hby own_d_prog_20_method_6_code_34) (by decide) (by decide) hr)) ?_
    show own_Go p e below _ (T3.setTop (mkF m 38 #[.val (.ref r_V1_1), .val (.int c0)] [(.int (1 : Int32))]))
    exact own_retN X3 hx hlk Bd.returns (t := .boolean) (by simp) (hb hby own_d_prog_20_method_6_code_38) (by decide) (by decide) ⟨(show some (Value.int (1 : Int32)) = some (Value.int (own_l1 c0)) by simp [own_l1, c1, c2, c4]), N0, e3⟩
  refine own_go (fun _ hr => XS.icmpNo X3.here hx rfl (hb hby own_d_prog_20_method_6_code_23) rfl (feq c4).1 hr) ?_
  show own_Go p e below _ (T3.setTop (mkF m 26 #[.val (.ref r_V1_1), .val (.int c0)] []))
  refine own_go (fun _ hr => XS.iloadN X3.here hx rfl (hb hby own_d_prog_20_method_6_code_26) rfl (XS.sipush X3.here hx rfl (hb hby own_d_prog_20_method_6_code_27) hr)) ?_
  show own_Go p e below _ (T3.setTop (mkF m 30 #[.val (.ref r_V1_1), .val (.int c0)] [(.int (8232 : Int32)), (.int c0)]))
  by_cases c5 : c0 = (8232 : Int32)
  · refine own_go (fun _ hr => XS.icmpNo X3.here hx rfl (hb hby own_d_prog_20_method_6_code_30) rfl (teq c5).2 hr) ?_
    show own_Go p e below _ (T3.setTop (mkF m 33 #[.val (.ref r_V1_1), .val (.int c0)] []))
    refine own_go (fun _ hr => XS.iconst X3.here hx rfl (hb hby own_d_prog_20_method_6_code_33) (XS.goto X3.here hx rfl (pc0 := 34) (pc' := 38) rfl (hb hby own_d_prog_20_method_6_code_34) (by decide) (by decide) hr)) ?_
    show own_Go p e below _ (T3.setTop (mkF m 38 #[.val (.ref r_V1_1), .val (.int c0)] [(.int (1 : Int32))]))
    exact own_retN X3 hx hlk Bd.returns (t := .boolean) (by simp) (hb hby own_d_prog_20_method_6_code_38) (by decide) (by decide) ⟨(show some (Value.int (1 : Int32)) = some (Value.int (own_l1 c0)) by simp [own_l1, c1, c2, c4, c5]), N0, e3⟩
  refine own_go (fun _ hr => XS.icmpYes X3.here hx rfl (pc0 := 30) (pc' := 37) rfl (hb hby own_d_prog_20_method_6_code_30) rfl (feq c5).2 (by decide) (by decide) hr) ?_
  show own_Go p e below _ (T3.setTop (mkF m 37 #[.val (.ref r_V1_1), .val (.int c0)] []))
  refine own_go (fun _ hr => XS.iconst X3.here hx rfl (hb hby own_d_prog_20_method_6_code_37) hr) ?_
  show own_Go p e below _ (T3.setTop (mkF m 38 #[.val (.ref r_V1_1), .val (.int c0)] [(.int (0 : Int32))]))
  exact own_retN X3 hx hlk Bd.returns (t := .boolean) (by simp) (hb hby own_d_prog_20_method_6_code_38) (by decide) (by decide) ⟨(show some (Value.int (0 : Int32)) = some (Value.int (own_l1 c0)) by simp [own_l1, c1, c2, c4, c5]), N0, e3⟩
theorem own_pd0 : parseMethodDescriptor "(II)I" = some ⟨[.int, .int], some .int⟩ := by decide +kernel
theorem own_pd1 : parseMethodDescriptor "(I)Z" = some ⟨[.int], some .boolean⟩ := by decide +kernel
def Q_law (Z : State) (h0 : Heap) (n0 : Nat) (v : Option Value) (h : Heap) (L : List Loc) : Prop := v = some (.int 1) ∧ Fr n0 L
set_option maxRecDepth 65536 in
set_option maxHeartbeats 40000000 in
theorem rm_law (l : Launch) (Z : State) (a0 : Array Value) (hw : ∀ d ∈ tables_1, d.before a0 Z = true) (ws : List Jvm.Cond) (x0 : Int32) (x1 : Int32) (x2 : Int32) (r_V1_0 : Addr) (r_V1_1 : Addr) (h0 : Heap) (n0 : Nat) (Z0 : n0 ≤ h0.size) (S_V1_0 : Sta Z h0 "com/example/fitzroy/fitzroy/XmlVersion" "V1_0" "Lcom/example/fitzroy/fitzroy/XmlVersion;" (.ref r_V1_0)) (E_V1_0 : Exa Z h0 r_V1_0 "com/example/fitzroy/fitzroy/XmlVersion") (S_V1_1 : Sta Z h0 "com/example/fitzroy/fitzroy/XmlVersion" "V1_1" "Lcom/example/fitzroy/fitzroy/XmlVersion;" (.ref r_V1_1)) (E_V1_1 : Exa Z h0 r_V1_1 "com/example/fitzroy/fitzroy/XmlVersion") (ne_V1_0_V1_1 : r_V1_0 ≠ r_V1_1) :
    MetFree l x (head1 (Jvm.Cond.code x code maxLocals ret :: ws) room_1) (fun a U => a = #[(.int x0), (.int x1), (.int x2)] ∧ Z.Warmed39 U.vm ∧ U.heap = h0) (fun _ _ _ _ _ => True) (fun _ U o U' => ∃ v L, o = .returned v ∧ Q_law Z h0 n0 v U'.heap L ∧ FrameEnd U o U' L room_1.cells room_1.slots) := by
  refine MetFree.of_bodySF (plainFor_of_name own_pn_com_example_fitzroy_fitzroy_XmlVersionEndsLineWithCarriageReturnPinLaw) hisR ?_
  intro p e s m args below meth c s₁ Bd hml0 hP hK
  obtain ⟨rfl, hZ, hh⟩ := hP
  have hx := Bd.exec
  have hby := Bd.bytes
  have hlk : meth.locks = false := BodyLoose.notSynchronized Bd
  have hml : c.maxLocals = 8 := hml0
  have hown : s.vm.findClass "com/example/fitzroy/fitzroy/XmlVersionEndsLineWithCarriageReturnPinLaw" = some m.cls := findClass_of_methodNamed Bd.named
  have hnm := (name_of_methodNamed Bd.named Bd.method).1
  have X0 : Stand p l e room_1 s m #[(.int x0), (.int x1), (.int x2)] below meth c s₁ [] 0 0 := Stand.of_body Bd
  have e0 : s₁.heap = h0 := by rw [← hh, Bd.state]; rfl
  have N0 := Fr.nil n0
  show own_Go p e below (own_K s (Q_law Z h0 n0) room_1.cells room_1.slots) (s₁.setTop (entryFrame m #[(.int x0), (.int x1), (.int x2)] maxLocals))
  rw [(by first | (simp [entryFrame, mkF, argsToLocals, Value.category, maxLocals]; done) | rfl : entryFrame m #[(.int x0), (.int x1), (.int x2)] maxLocals = mkF m 0 #[.val (.int x0), .val (.int x1), .val (.int x2), .unset, .unset, .unset, .unset, .unset] [])]
  show own_Go p e below _ (s₁.setTop (mkF m 0 #[.val (.int x0), .val (.int x1), .val (.int x2), .unset, .unset, .unset, .unset, .unset] []))
  refine own_go (fun _ hr => XS.iloadN X0.here hx rfl (hb hby at_0) rfl (XS.iconst X0.here hx rfl (hb hby at_1) (XS.iand X0.here hx rfl (hb hby at_2) rfl hr))) ?_
  show own_Go p e below _ (s₁.setTop (mkF m 3 #[.val (.int x0), .val (.int x1), .val (.int x2), .unset, .unset, .unset, .unset, .unset] [(.int (x0 &&& (1 : Int32)))]))
  by_cases c1 : (x0 &&& (1 : Int32)) = (0 : Int32)
  · refine own_go (fun _ hr => XS.ifYes X0.here hx rfl (pc0 := 3) (pc' := 10) rfl (hb hby at_3) rfl ((if0 _ _).trans (teq c1).1) (by decide) (by decide) hr) ?_
    show own_Go p e below _ (s₁.setTop (mkF m 10 #[.val (.int x0), .val (.int x1), .val (.int x2), .unset, .unset, .unset, .unset, .unset] []))
    refine own_go (fun _ hr => XS.iconst X0.here hx rfl (hb hby at_10) (XS.istoreN X0.here hx rfl (hb hby at_11) rfl (l' := #[.val (.int x0), .val (.int x1), .val (.int x2), .val (.int (0 : Int32)), .unset, .unset, .unset, .unset]) rfl (XS.iloadN X0.here hx rfl (hb hby at_12) rfl (XS.ifYes X0.here hx rfl (pc0 := 13) (pc' := 22) rfl (hb hby at_13) rfl ((if0 _ _).trans (teq (by decide)).1) (by decide) (by decide) hr)))) ?_
    show own_Go p e below _ (s₁.setTop (mkF m 22 #[.val (.int x0), .val (.int x1), .val (.int x2), .val (.int (0 : Int32)), .unset, .unset, .unset, .unset] []))
    obtain ⟨T2, X2, e2, st2⟩ := getS2 X0 hx hZ hown (host := "") (Or.inl (hw _ (own_m 0 rfl))) Via.refl e0 S_V1_0 (g := (mkF m 22 #[.val (.int x0), .val (.int x1), .val (.int x2), .val (.int (0 : Int32)), .unset, .unset, .unset, .unset] [])) rfl (hb hby at_22)
    refine own_go st2 ?_
    show own_Go p e below _ (T2.setTop (mkF m 25 #[.val (.int x0), .val (.int x1), .val (.int x2), .val (.int (0 : Int32)), .unset, .unset, .unset, .unset] [(.ref r_V1_0)]))
    refine own_go (fun _ hr => XS.astore X2.here hx rfl (hb hby at_25) rfl rfl (l' := #[.val (.int x0), .val (.int x1), .val (.int x2), .val (.int (0 : Int32)), .val (.ref r_V1_0), .unset, .unset, .unset]) rfl (XS.iloadN X2.here hx rfl (hb hby at_27) rfl (XS.iloadN X2.here hx rfl (hb hby at_28) rfl hr))) ?_
    show own_Go p e below _ (T2.setTop (mkF m 29 #[.val (.int x0), .val (.int x1), .val (.int x2), .val (.int (0 : Int32)), .val (.ref r_V1_0), .unset, .unset, .unset] [(.int x2), (.int x1)]))
    refine own_cs X2 hx hZ hown (hw _ (own_m 3 rfl)) (hw _ (own_m 4 rfl)) (hw _ (own_m 5 rfl)) (hw _ (own_m 6 rfl)) (by decide) (rm := { frames := 0, cells := 0, slots := 0, locals := 0 }) (rm_pick l Z a0 hw [] x1 x2 h0 n0 Z0 ) (by decide) (W := 0) (by decide) (by decide) (by decide) e2 (by rw [hml]; rfl) (argsL := [(.int x1), (.int x2)]) (lenOf own_pd0 rfl) (rest := []) rfl rfl (Nat.le_of_eq rfl) (hb hby at_29) ?_
    intro _ T3 L3 X3 hQ3
    obtain ⟨rfl, N3q, e3⟩ := hQ3
    have N3 := Fr.app N0 N3q
    show own_Go p e below _ (T3.setTop (mkF m 32 #[.val (.int x0), .val (.int x1), .val (.int x2), .val (.int (0 : Int32)), .val (.ref r_V1_0), .unset, .unset, .unset] [(.int (own_pick x1 x2))]))
    refine own_go (fun _ hr => XS.istore X3.here hx rfl (hb hby at_32) rfl (l' := #[.val (.int x0), .val (.int x1), .val (.int x2), .val (.int (0 : Int32)), .val (.ref r_V1_0), .val (.int (own_pick x1 x2)), .unset, .unset]) rfl hr) ?_
    show own_Go p e below _ (T3.setTop (mkF m 34 #[.val (.int x0), .val (.int x1), .val (.int x2), .val (.int (0 : Int32)), .val (.ref r_V1_0), .val (.int (own_pick x1 x2)), .unset, .unset] []))
    generalize hu4 : (own_pick x1 x2) = u4
    refine own_go (fun _ hr => XS.aload X3.here hx rfl (hb hby at_34) rfl rfl (XS.iload X3.here hx rfl (hb hby at_36) rfl hr)) ?_
    show own_Go p e below _ (T3.setTop (mkF m 38 #[.val (.int x0), .val (.int x1), .val (.int x2), .val (.int (0 : Int32)), .val (.ref r_V1_0), .val (.int u4), .unset, .unset] [(.int u4), (.ref r_V1_0)]))
    refine own_cv X3 hx hZ hown (notFace_of_selects (args := #[]) (mvT hZ (hw _ (own_m 10 rfl)))) (hw _ (own_m 7 rfl)) (hw _ (own_m 8 rfl)) (hw _ (own_m 10 rfl)) (hw _ (own_m 9 rfl)) (hw _ (own_m 1 rfl)) (hw _ (own_m 11 rfl)) (by decide) E_V1_0 (rm := { frames := 0, cells := 0, slots := 0, locals := 0 }) (rm_w0 l Z a0 hw [] u4 r_V1_0 r_V1_1 h0 n0 Z0 S_V1_0 E_V1_0 S_V1_1 E_V1_1 ne_V1_0_V1_1) (by decide) (W := 0) (by decide) (by decide) (by decide) e3 (by rw [hml]; rfl) (argsL := [(.int u4)]) (lenOf own_pd1 rfl) (rest := []) rfl rfl (Nat.le_of_eq rfl) (hb hby at_38) ?_
    intro _ T5 L5 X5 hQ5
    obtain ⟨rfl, N5q, e5⟩ := hQ5
    have N5 := Fr.app N3 N5q
    show own_Go p e below _ (T5.setTop (mkF m 41 #[.val (.int x0), .val (.int x1), .val (.int x2), .val (.int (0 : Int32)), .val (.ref r_V1_0), .val (.int u4), .unset, .unset] [(.int (own_w0 u4))]))
    refine own_go (fun _ hr => XS.istore X5.here hx rfl (hb hby at_41) rfl (l' := #[.val (.int x0), .val (.int x1), .val (.int x2), .val (.int (0 : Int32)), .val (.ref r_V1_0), .val (.int u4), .val (.int (own_w0 u4)), .unset]) rfl (XS.iload X5.here hx rfl (hb hby at_43) rfl (XS.bipush X5.here hx rfl (hb hby at_45) hr))) ?_
    show own_Go p e below _ (T5.setTop (mkF m 47 #[.val (.int x0), .val (.int x1), .val (.int x2), .val (.int (0 : Int32)), .val (.ref r_V1_0), .val (.int u4), .val (.int (own_w0 u4)), .unset] [(.int (10 : Int32)), (.int u4)]))
    by_cases c6 : u4 = (10 : Int32)
    · refine own_go (fun _ hr => XS.icmpYes X5.here hx rfl (pc0 := 47) (pc' := 62) rfl (hb hby at_47) rfl (teq c6).1 (by decide) (by decide) hr) ?_
      show own_Go p e below _ (T5.setTop (mkF m 62 #[.val (.int x0), .val (.int x1), .val (.int x2), .val (.int (0 : Int32)), .val (.ref r_V1_0), .val (.int u4), .val (.int (own_w0 u4)), .unset] []))
      refine own_go (fun _ hr => XS.iconst X5.here hx rfl (hb hby at_62) (XS.goto X5.here hx rfl (pc0 := 63) (pc' := 67) rfl (hb hby at_63) (by decide) (by decide) (XS.istore X5.here hx rfl (hb hby at_67) rfl (l' := #[.val (.int x0), .val (.int x1), .val (.int x2), .val (.int (0 : Int32)), .val (.ref r_V1_0), .val (.int u4), .val (.int (own_w0 u4)), .val (.int (1 : Int32))]) rfl (XS.iload X5.here hx rfl (hb hby at_69) rfl (XS.iload X5.here hx rfl (hb hby at_71) rfl hr))))) ?_
      show own_Go p e below _ (T5.setTop (mkF m 73 #[.val (.int x0), .val (.int x1), .val (.int x2), .val (.int (0 : Int32)), .val (.ref r_V1_0), .val (.int u4), .val (.int (own_w0 u4)), .val (.int (1 : Int32))] [(.int (1 : Int32)), (.int (own_w0 u4))]))
      have c7 : (own_w0 u4) = (1 : Int32) := by simp [own_w0, c6]
      refine own_go (fun _ hr => XS.icmpYes X5.here hx rfl (pc0 := 73) (pc' := 78) rfl (hb hby at_73) rfl (teq c7).1 (by decide) (by decide) hr) ?_
      show own_Go p e below _ (T5.setTop (mkF m 78 #[.val (.int x0), .val (.int x1), .val (.int x2), .val (.int (0 : Int32)), .val (.ref r_V1_0), .val (.int u4), .val (.int (own_w0 u4)), .val (.int (1 : Int32))] []))
      refine own_go (fun _ hr => XS.iload X5.here hx rfl (hb hby at_78) rfl hr) ?_
      show own_Go p e below _ (T5.setTop (mkF m 80 #[.val (.int x0), .val (.int x1), .val (.int x2), .val (.int (0 : Int32)), .val (.ref r_V1_0), .val (.int u4), .val (.int (own_w0 u4)), .val (.int (1 : Int32))] [(.int (own_w0 u4))]))
      have c8 : ¬ ((own_w0 u4) = (0 : Int32)) := by simp [own_w0, c6]
      refine own_go (fun _ hr => XS.ifNo X5.here hx rfl (hb hby at_80) rfl ((if0 _ _).trans (feq c8).1) hr) ?_
      show own_Go p e below _ (T5.setTop (mkF m 83 #[.val (.int x0), .val (.int x1), .val (.int x2), .val (.int (0 : Int32)), .val (.ref r_V1_0), .val (.int u4), .val (.int (own_w0 u4)), .val (.int (1 : Int32))] []))
      refine own_go (fun _ hr => XS.aload X5.here hx rfl (hb hby at_83) rfl rfl (XS.iload X5.here hx rfl (hb hby at_85) rfl hr)) ?_
      show own_Go p e below _ (T5.setTop (mkF m 87 #[.val (.int x0), .val (.int x1), .val (.int x2), .val (.int (0 : Int32)), .val (.ref r_V1_0), .val (.int u4), .val (.int (own_w0 u4)), .val (.int (1 : Int32))] [(.int u4), (.ref r_V1_0)]))
      refine own_cv X5 hx hZ hown (notFace_of_selects (args := #[]) (mvT hZ (hw _ (own_m 19 rfl)))) (hw _ (own_m 16 rfl)) (hw _ (own_m 17 rfl)) (hw _ (own_m 19 rfl)) (hw _ (own_m 18 rfl)) (hw _ (own_m 1 rfl)) (hw _ (own_m 20 rfl)) (by decide) E_V1_0 (rm := { frames := 0, cells := 0, slots := 0, locals := 0 }) (rm_l0 l Z a0 hw [] u4 r_V1_0 r_V1_1 h0 n0 Z0 S_V1_0 E_V1_0 S_V1_1 E_V1_1 ne_V1_0_V1_1) (by decide) (W := 0) (by decide) (by decide) (by decide) e5 (by rw [hml]; rfl) (argsL := [(.int u4)]) (lenOf own_pd1 rfl) (rest := []) rfl rfl (Nat.le_of_eq rfl) (hb hby at_87) ?_
      intro _ T9 L9 X9 hQ9
      obtain ⟨rfl, N9q, e9⟩ := hQ9
      have N9 := Fr.app N5 N9q
      show own_Go p e below _ (T9.setTop (mkF m 90 #[.val (.int x0), .val (.int x1), .val (.int x2), .val (.int (0 : Int32)), .val (.ref r_V1_0), .val (.int u4), .val (.int (own_w0 u4)), .val (.int (1 : Int32))] [(.int (own_l0 u4))]))
      have c10 : ¬ ((own_l0 u4) = (0 : Int32)) := by simp [own_l0, c6]
      refine own_go (fun _ hr => XS.ifNo X9.here hx rfl (hb hby at_90) rfl ((if0 _ _).trans (feq c10).1) hr) ?_
      show own_Go p e below _ (T9.setTop (mkF m 93 #[.val (.int x0), .val (.int x1), .val (.int x2), .val (.int (0 : Int32)), .val (.ref r_V1_0), .val (.int u4), .val (.int (own_w0 u4)), .val (.int (1 : Int32))] []))
      refine own_go (fun _ hr => XS.iload X9.here hx rfl (hb hby at_93) rfl (XS.bipush X9.here hx rfl (hb hby at_95) hr)) ?_
      show own_Go p e below _ (T9.setTop (mkF m 97 #[.val (.int x0), .val (.int x1), .val (.int x2), .val (.int (0 : Int32)), .val (.ref r_V1_0), .val (.int u4), .val (.int (own_w0 u4)), .val (.int (1 : Int32))] [(.int (13 : Int32)), (.int u4)]))
      have c11 : ¬ (u4 = (13 : Int32)) := by rw [c6]; decide
      refine own_go (fun _ hr => XS.icmpNo X9.here hx rfl (hb hby at_97) rfl (feq c11).1 hr) ?_
      show own_Go p e below _ (T9.setTop (mkF m 100 #[.val (.int x0), .val (.int x1), .val (.int x2), .val (.int (0 : Int32)), .val (.ref r_V1_0), .val (.int u4), .val (.int (own_w0 u4)), .val (.int (1 : Int32))] []))
      refine own_go (fun _ hr => XS.iconst X9.here hx rfl (hb hby at_100) (XS.goto X9.here hx rfl (pc0 := 101) (pc' := 105) rfl (hb hby at_101) (by decide) (by decide) hr)) ?_
      show own_Go p e below _ (T9.setTop (mkF m 105 #[.val (.int x0), .val (.int x1), .val (.int x2), .val (.int (0 : Int32)), .val (.ref r_V1_0), .val (.int u4), .val (.int (own_w0 u4)), .val (.int (1 : Int32))] [(.int (1 : Int32))]))
      exact own_retN X9 hx hlk Bd.returns (t := .boolean) (by simp) (hb hby at_105) (by decide) (by decide) ⟨rfl, N9⟩
    refine own_go (fun _ hr => XS.icmpNo X5.here hx rfl (hb hby at_47) rfl (feq c6).1 hr) ?_
    show own_Go p e below _ (T5.setTop (mkF m 50 #[.val (.int x0), .val (.int x1), .val (.int x2), .val (.int (0 : Int32)), .val (.ref r_V1_0), .val (.int u4), .val (.int (own_w0 u4)), .unset] []))
    refine own_go (fun _ hr => XS.iloadN X5.here hx rfl (hb hby at_50) rfl (XS.ifYes X5.here hx rfl (pc0 := 51) (pc' := 66) rfl (hb hby at_51) rfl ((if0 _ _).trans (teq (by decide)).1) (by decide) (by decide) (XS.iconst X5.here hx rfl (hb hby at_66) (XS.istore X5.here hx rfl (hb hby at_67) rfl (l' := #[.val (.int x0), .val (.int x1), .val (.int x2), .val (.int (0 : Int32)), .val (.ref r_V1_0), .val (.int u4), .val (.int (own_w0 u4)), .val (.int (0 : Int32))]) rfl (XS.iload X5.here hx rfl (hb hby at_69) rfl (XS.iload X5.here hx rfl (hb hby at_71) rfl hr)))))) ?_
    show own_Go p e below _ (T5.setTop (mkF m 73 #[.val (.int x0), .val (.int x1), .val (.int x2), .val (.int (0 : Int32)), .val (.ref r_V1_0), .val (.int u4), .val (.int (own_w0 u4)), .val (.int (0 : Int32))] [(.int (0 : Int32)), (.int (own_w0 u4))]))
    have c12 : (own_w0 u4) = (0 : Int32) := by simp [own_w0, c6]
    refine own_go (fun _ hr => XS.icmpYes X5.here hx rfl (pc0 := 73) (pc' := 78) rfl (hb hby at_73) rfl (teq c12).1 (by decide) (by decide) hr) ?_
    show own_Go p e below _ (T5.setTop (mkF m 78 #[.val (.int x0), .val (.int x1), .val (.int x2), .val (.int (0 : Int32)), .val (.ref r_V1_0), .val (.int u4), .val (.int (own_w0 u4)), .val (.int (0 : Int32))] []))
    refine own_go (fun _ hr => XS.iload X5.here hx rfl (hb hby at_78) rfl hr) ?_
    show own_Go p e below _ (T5.setTop (mkF m 80 #[.val (.int x0), .val (.int x1), .val (.int x2), .val (.int (0 : Int32)), .val (.ref r_V1_0), .val (.int u4), .val (.int (own_w0 u4)), .val (.int (0 : Int32))] [(.int (own_w0 u4))]))
    have c13 : (own_w0 u4) = (0 : Int32) := by simp [own_w0, c6]
    refine own_go (fun _ hr => XS.ifYes X5.here hx rfl (pc0 := 80) (pc' := 106) rfl (hb hby at_80) rfl ((if0 _ _).trans (teq c13).1) (by decide) (by decide) hr) ?_
    show own_Go p e below _ (T5.setTop (mkF m 106 #[.val (.int x0), .val (.int x1), .val (.int x2), .val (.int (0 : Int32)), .val (.ref r_V1_0), .val (.int u4), .val (.int (own_w0 u4)), .val (.int (0 : Int32))] []))
    refine own_go (fun _ hr => XS.iconst X5.here hx rfl (hb hby at_106) hr) ?_
    show own_Go p e below _ (T5.setTop (mkF m 107 #[.val (.int x0), .val (.int x1), .val (.int x2), .val (.int (0 : Int32)), .val (.ref r_V1_0), .val (.int u4), .val (.int (own_w0 u4)), .val (.int (0 : Int32))] [(.int (1 : Int32))]))
    exact own_retN X5 hx hlk Bd.returns (t := .boolean) (by simp) (hb hby at_107) (by decide) (by decide) ⟨rfl, N5⟩
  refine own_go (fun _ hr => XS.ifNo X0.here hx rfl (hb hby at_3) rfl ((if0 _ _).trans (feq c1).1) hr) ?_
  show own_Go p e below _ (s₁.setTop (mkF m 6 #[.val (.int x0), .val (.int x1), .val (.int x2), .unset, .unset, .unset, .unset, .unset] []))
  refine own_go (fun _ hr => XS.iconst X0.here hx rfl (hb hby at_6) (XS.goto X0.here hx rfl (pc0 := 7) (pc' := 11) rfl (hb hby at_7) (by decide) (by decide) (XS.istoreN X0.here hx rfl (hb hby at_11) rfl (l' := #[.val (.int x0), .val (.int x1), .val (.int x2), .val (.int (1 : Int32)), .unset, .unset, .unset, .unset]) rfl (XS.iloadN X0.here hx rfl (hb hby at_12) rfl (XS.ifNo X0.here hx rfl (hb hby at_13) rfl ((if0 _ _).trans (feq (by decide)).1) hr))))) ?_
  show own_Go p e below _ (s₁.setTop (mkF m 16 #[.val (.int x0), .val (.int x1), .val (.int x2), .val (.int (1 : Int32)), .unset, .unset, .unset, .unset] []))
  obtain ⟨T14, X14, e14, st14⟩ := getS2 X0 hx hZ hown (host := "") (Or.inl (hw _ (own_m 14 rfl))) Via.refl e0 S_V1_1 (g := (mkF m 16 #[.val (.int x0), .val (.int x1), .val (.int x2), .val (.int (1 : Int32)), .unset, .unset, .unset, .unset] [])) rfl (hb hby at_16)
  refine own_go st14 ?_
  show own_Go p e below _ (T14.setTop (mkF m 19 #[.val (.int x0), .val (.int x1), .val (.int x2), .val (.int (1 : Int32)), .unset, .unset, .unset, .unset] [(.ref r_V1_1)]))
  refine own_go (fun _ hr => XS.goto X14.here hx rfl (pc0 := 19) (pc' := 25) rfl (hb hby at_19) (by decide) (by decide) (XS.astore X14.here hx rfl (hb hby at_25) rfl rfl (l' := #[.val (.int x0), .val (.int x1), .val (.int x2), .val (.int (1 : Int32)), .val (.ref r_V1_1), .unset, .unset, .unset]) rfl (XS.iloadN X14.here hx rfl (hb hby at_27) rfl (XS.iloadN X14.here hx rfl (hb hby at_28) rfl hr)))) ?_
  show own_Go p e below _ (T14.setTop (mkF m 29 #[.val (.int x0), .val (.int x1), .val (.int x2), .val (.int (1 : Int32)), .val (.ref r_V1_1), .unset, .unset, .unset] [(.int x2), (.int x1)]))
  refine own_cs X14 hx hZ hown (hw _ (own_m 3 rfl)) (hw _ (own_m 4 rfl)) (hw _ (own_m 5 rfl)) (hw _ (own_m 6 rfl)) (by decide) (rm := { frames := 0, cells := 0, slots := 0, locals := 0 }) (rm_pick l Z a0 hw [] x1 x2 h0 n0 Z0 ) (by decide) (W := 0) (by decide) (by decide) (by decide) e14 (by rw [hml]; rfl) (argsL := [(.int x1), (.int x2)]) (lenOf own_pd0 rfl) (rest := []) rfl rfl (Nat.le_of_eq rfl) (hb hby at_29) ?_
  intro _ T15 L15 X15 hQ15
  obtain ⟨rfl, N15q, e15⟩ := hQ15
  have N15 := Fr.app N0 N15q
  show own_Go p e below _ (T15.setTop (mkF m 32 #[.val (.int x0), .val (.int x1), .val (.int x2), .val (.int (1 : Int32)), .val (.ref r_V1_1), .unset, .unset, .unset] [(.int (own_pick x1 x2))]))
  refine own_go (fun _ hr => XS.istore X15.here hx rfl (hb hby at_32) rfl (l' := #[.val (.int x0), .val (.int x1), .val (.int x2), .val (.int (1 : Int32)), .val (.ref r_V1_1), .val (.int (own_pick x1 x2)), .unset, .unset]) rfl hr) ?_
  show own_Go p e below _ (T15.setTop (mkF m 34 #[.val (.int x0), .val (.int x1), .val (.int x2), .val (.int (1 : Int32)), .val (.ref r_V1_1), .val (.int (own_pick x1 x2)), .unset, .unset] []))
  generalize hu16 : (own_pick x1 x2) = u16
  refine own_go (fun _ hr => XS.aload X15.here hx rfl (hb hby at_34) rfl rfl (XS.iload X15.here hx rfl (hb hby at_36) rfl hr)) ?_
  show own_Go p e below _ (T15.setTop (mkF m 38 #[.val (.int x0), .val (.int x1), .val (.int x2), .val (.int (1 : Int32)), .val (.ref r_V1_1), .val (.int u16), .unset, .unset] [(.int u16), (.ref r_V1_1)]))
  refine own_cv X15 hx hZ hown (notFace_of_selects (args := #[]) (mvT hZ (hw _ (own_m 10 rfl)))) (hw _ (own_m 7 rfl)) (hw _ (own_m 8 rfl)) (hw _ (own_m 10 rfl)) (hw _ (own_m 9 rfl)) (hw _ (own_m 1 rfl)) (hw _ (own_m 11 rfl)) (by decide) E_V1_1 (rm := { frames := 0, cells := 0, slots := 0, locals := 0 }) (rm_w1 l Z a0 hw [] u16 r_V1_0 r_V1_1 h0 n0 Z0 S_V1_0 E_V1_0 S_V1_1 E_V1_1 ne_V1_0_V1_1) (by decide) (W := 0) (by decide) (by decide) (by decide) e15 (by rw [hml]; rfl) (argsL := [(.int u16)]) (lenOf own_pd1 rfl) (rest := []) rfl rfl (Nat.le_of_eq rfl) (hb hby at_38) ?_
  intro _ T17 L17 X17 hQ17
  obtain ⟨rfl, N17q, e17⟩ := hQ17
  have N17 := Fr.app N15 N17q
  show own_Go p e below _ (T17.setTop (mkF m 41 #[.val (.int x0), .val (.int x1), .val (.int x2), .val (.int (1 : Int32)), .val (.ref r_V1_1), .val (.int u16), .unset, .unset] [(.int (own_w1 u16))]))
  refine own_go (fun _ hr => XS.istore X17.here hx rfl (hb hby at_41) rfl (l' := #[.val (.int x0), .val (.int x1), .val (.int x2), .val (.int (1 : Int32)), .val (.ref r_V1_1), .val (.int u16), .val (.int (own_w1 u16)), .unset]) rfl (XS.iload X17.here hx rfl (hb hby at_43) rfl (XS.bipush X17.here hx rfl (hb hby at_45) hr))) ?_
  show own_Go p e below _ (T17.setTop (mkF m 47 #[.val (.int x0), .val (.int x1), .val (.int x2), .val (.int (1 : Int32)), .val (.ref r_V1_1), .val (.int u16), .val (.int (own_w1 u16)), .unset] [(.int (10 : Int32)), (.int u16)]))
  by_cases c18 : u16 = (10 : Int32)
  · refine own_go (fun _ hr => XS.icmpYes X17.here hx rfl (pc0 := 47) (pc' := 62) rfl (hb hby at_47) rfl (teq c18).1 (by decide) (by decide) hr) ?_
    show own_Go p e below _ (T17.setTop (mkF m 62 #[.val (.int x0), .val (.int x1), .val (.int x2), .val (.int (1 : Int32)), .val (.ref r_V1_1), .val (.int u16), .val (.int (own_w1 u16)), .unset] []))
    refine own_go (fun _ hr => XS.iconst X17.here hx rfl (hb hby at_62) (XS.goto X17.here hx rfl (pc0 := 63) (pc' := 67) rfl (hb hby at_63) (by decide) (by decide) (XS.istore X17.here hx rfl (hb hby at_67) rfl (l' := #[.val (.int x0), .val (.int x1), .val (.int x2), .val (.int (1 : Int32)), .val (.ref r_V1_1), .val (.int u16), .val (.int (own_w1 u16)), .val (.int (1 : Int32))]) rfl (XS.iload X17.here hx rfl (hb hby at_69) rfl (XS.iload X17.here hx rfl (hb hby at_71) rfl hr))))) ?_
    show own_Go p e below _ (T17.setTop (mkF m 73 #[.val (.int x0), .val (.int x1), .val (.int x2), .val (.int (1 : Int32)), .val (.ref r_V1_1), .val (.int u16), .val (.int (own_w1 u16)), .val (.int (1 : Int32))] [(.int (1 : Int32)), (.int (own_w1 u16))]))
    have c19 : (own_w1 u16) = (1 : Int32) := by simp [own_w1, c18]
    refine own_go (fun _ hr => XS.icmpYes X17.here hx rfl (pc0 := 73) (pc' := 78) rfl (hb hby at_73) rfl (teq c19).1 (by decide) (by decide) hr) ?_
    show own_Go p e below _ (T17.setTop (mkF m 78 #[.val (.int x0), .val (.int x1), .val (.int x2), .val (.int (1 : Int32)), .val (.ref r_V1_1), .val (.int u16), .val (.int (own_w1 u16)), .val (.int (1 : Int32))] []))
    refine own_go (fun _ hr => XS.iload X17.here hx rfl (hb hby at_78) rfl hr) ?_
    show own_Go p e below _ (T17.setTop (mkF m 80 #[.val (.int x0), .val (.int x1), .val (.int x2), .val (.int (1 : Int32)), .val (.ref r_V1_1), .val (.int u16), .val (.int (own_w1 u16)), .val (.int (1 : Int32))] [(.int (own_w1 u16))]))
    have c20 : ¬ ((own_w1 u16) = (0 : Int32)) := by simp [own_w1, c18]
    refine own_go (fun _ hr => XS.ifNo X17.here hx rfl (hb hby at_80) rfl ((if0 _ _).trans (feq c20).1) hr) ?_
    show own_Go p e below _ (T17.setTop (mkF m 83 #[.val (.int x0), .val (.int x1), .val (.int x2), .val (.int (1 : Int32)), .val (.ref r_V1_1), .val (.int u16), .val (.int (own_w1 u16)), .val (.int (1 : Int32))] []))
    refine own_go (fun _ hr => XS.aload X17.here hx rfl (hb hby at_83) rfl rfl (XS.iload X17.here hx rfl (hb hby at_85) rfl hr)) ?_
    show own_Go p e below _ (T17.setTop (mkF m 87 #[.val (.int x0), .val (.int x1), .val (.int x2), .val (.int (1 : Int32)), .val (.ref r_V1_1), .val (.int u16), .val (.int (own_w1 u16)), .val (.int (1 : Int32))] [(.int u16), (.ref r_V1_1)]))
    refine own_cv X17 hx hZ hown (notFace_of_selects (args := #[]) (mvT hZ (hw _ (own_m 19 rfl)))) (hw _ (own_m 16 rfl)) (hw _ (own_m 17 rfl)) (hw _ (own_m 19 rfl)) (hw _ (own_m 18 rfl)) (hw _ (own_m 1 rfl)) (hw _ (own_m 20 rfl)) (by decide) E_V1_1 (rm := { frames := 0, cells := 0, slots := 0, locals := 0 }) (rm_l1 l Z a0 hw [] u16 r_V1_0 r_V1_1 h0 n0 Z0 S_V1_0 E_V1_0 S_V1_1 E_V1_1 ne_V1_0_V1_1) (by decide) (W := 0) (by decide) (by decide) (by decide) e17 (by rw [hml]; rfl) (argsL := [(.int u16)]) (lenOf own_pd1 rfl) (rest := []) rfl rfl (Nat.le_of_eq rfl) (hb hby at_87) ?_
    intro _ T21 L21 X21 hQ21
    obtain ⟨rfl, N21q, e21⟩ := hQ21
    have N21 := Fr.app N17 N21q
    show own_Go p e below _ (T21.setTop (mkF m 90 #[.val (.int x0), .val (.int x1), .val (.int x2), .val (.int (1 : Int32)), .val (.ref r_V1_1), .val (.int u16), .val (.int (own_w1 u16)), .val (.int (1 : Int32))] [(.int (own_l1 u16))]))
    have c22 : ¬ ((own_l1 u16) = (0 : Int32)) := by simp [own_l1, c18]
    refine own_go (fun _ hr => XS.ifNo X21.here hx rfl (hb hby at_90) rfl ((if0 _ _).trans (feq c22).1) hr) ?_
    show own_Go p e below _ (T21.setTop (mkF m 93 #[.val (.int x0), .val (.int x1), .val (.int x2), .val (.int (1 : Int32)), .val (.ref r_V1_1), .val (.int u16), .val (.int (own_w1 u16)), .val (.int (1 : Int32))] []))
    refine own_go (fun _ hr => XS.iload X21.here hx rfl (hb hby at_93) rfl (XS.bipush X21.here hx rfl (hb hby at_95) hr)) ?_
    show own_Go p e below _ (T21.setTop (mkF m 97 #[.val (.int x0), .val (.int x1), .val (.int x2), .val (.int (1 : Int32)), .val (.ref r_V1_1), .val (.int u16), .val (.int (own_w1 u16)), .val (.int (1 : Int32))] [(.int (13 : Int32)), (.int u16)]))
    have c23 : ¬ (u16 = (13 : Int32)) := by rw [c18]; decide
    refine own_go (fun _ hr => XS.icmpNo X21.here hx rfl (hb hby at_97) rfl (feq c23).1 hr) ?_
    show own_Go p e below _ (T21.setTop (mkF m 100 #[.val (.int x0), .val (.int x1), .val (.int x2), .val (.int (1 : Int32)), .val (.ref r_V1_1), .val (.int u16), .val (.int (own_w1 u16)), .val (.int (1 : Int32))] []))
    refine own_go (fun _ hr => XS.iconst X21.here hx rfl (hb hby at_100) (XS.goto X21.here hx rfl (pc0 := 101) (pc' := 105) rfl (hb hby at_101) (by decide) (by decide) hr)) ?_
    show own_Go p e below _ (T21.setTop (mkF m 105 #[.val (.int x0), .val (.int x1), .val (.int x2), .val (.int (1 : Int32)), .val (.ref r_V1_1), .val (.int u16), .val (.int (own_w1 u16)), .val (.int (1 : Int32))] [(.int (1 : Int32))]))
    exact own_retN X21 hx hlk Bd.returns (t := .boolean) (by simp) (hb hby at_105) (by decide) (by decide) ⟨rfl, N21⟩
  refine own_go (fun _ hr => XS.icmpNo X17.here hx rfl (hb hby at_47) rfl (feq c18).1 hr) ?_
  show own_Go p e below _ (T17.setTop (mkF m 50 #[.val (.int x0), .val (.int x1), .val (.int x2), .val (.int (1 : Int32)), .val (.ref r_V1_1), .val (.int u16), .val (.int (own_w1 u16)), .unset] []))
  refine own_go (fun _ hr => XS.iloadN X17.here hx rfl (hb hby at_50) rfl (XS.ifNo X17.here hx rfl (hb hby at_51) rfl ((if0 _ _).trans (feq (by decide)).1) (XS.iload X17.here hx rfl (hb hby at_54) rfl (XS.sipush X17.here hx rfl (hb hby at_56) hr)))) ?_
  show own_Go p e below _ (T17.setTop (mkF m 59 #[.val (.int x0), .val (.int x1), .val (.int x2), .val (.int (1 : Int32)), .val (.ref r_V1_1), .val (.int u16), .val (.int (own_w1 u16)), .unset] [(.int (133 : Int32)), (.int u16)]))
  by_cases c24 : u16 = (133 : Int32)
  · refine own_go (fun _ hr => XS.icmpNo X17.here hx rfl (hb hby at_59) rfl (teq c24).2 hr) ?_
    show own_Go p e below _ (T17.setTop (mkF m 62 #[.val (.int x0), .val (.int x1), .val (.int x2), .val (.int (1 : Int32)), .val (.ref r_V1_1), .val (.int u16), .val (.int (own_w1 u16)), .unset] []))
    refine own_go (fun _ hr => XS.iconst X17.here hx rfl (hb hby at_62) (XS.goto X17.here hx rfl (pc0 := 63) (pc' := 67) rfl (hb hby at_63) (by decide) (by decide) (XS.istore X17.here hx rfl (hb hby at_67) rfl (l' := #[.val (.int x0), .val (.int x1), .val (.int x2), .val (.int (1 : Int32)), .val (.ref r_V1_1), .val (.int u16), .val (.int (own_w1 u16)), .val (.int (1 : Int32))]) rfl (XS.iload X17.here hx rfl (hb hby at_69) rfl (XS.iload X17.here hx rfl (hb hby at_71) rfl hr))))) ?_
    show own_Go p e below _ (T17.setTop (mkF m 73 #[.val (.int x0), .val (.int x1), .val (.int x2), .val (.int (1 : Int32)), .val (.ref r_V1_1), .val (.int u16), .val (.int (own_w1 u16)), .val (.int (1 : Int32))] [(.int (1 : Int32)), (.int (own_w1 u16))]))
    have c25 : (own_w1 u16) = (1 : Int32) := by simp [own_w1, c18, c24]
    refine own_go (fun _ hr => XS.icmpYes X17.here hx rfl (pc0 := 73) (pc' := 78) rfl (hb hby at_73) rfl (teq c25).1 (by decide) (by decide) hr) ?_
    show own_Go p e below _ (T17.setTop (mkF m 78 #[.val (.int x0), .val (.int x1), .val (.int x2), .val (.int (1 : Int32)), .val (.ref r_V1_1), .val (.int u16), .val (.int (own_w1 u16)), .val (.int (1 : Int32))] []))
    refine own_go (fun _ hr => XS.iload X17.here hx rfl (hb hby at_78) rfl hr) ?_
    show own_Go p e below _ (T17.setTop (mkF m 80 #[.val (.int x0), .val (.int x1), .val (.int x2), .val (.int (1 : Int32)), .val (.ref r_V1_1), .val (.int u16), .val (.int (own_w1 u16)), .val (.int (1 : Int32))] [(.int (own_w1 u16))]))
    have c26 : ¬ ((own_w1 u16) = (0 : Int32)) := by simp [own_w1, c18, c24]
    refine own_go (fun _ hr => XS.ifNo X17.here hx rfl (hb hby at_80) rfl ((if0 _ _).trans (feq c26).1) hr) ?_
    show own_Go p e below _ (T17.setTop (mkF m 83 #[.val (.int x0), .val (.int x1), .val (.int x2), .val (.int (1 : Int32)), .val (.ref r_V1_1), .val (.int u16), .val (.int (own_w1 u16)), .val (.int (1 : Int32))] []))
    refine own_go (fun _ hr => XS.aload X17.here hx rfl (hb hby at_83) rfl rfl (XS.iload X17.here hx rfl (hb hby at_85) rfl hr)) ?_
    show own_Go p e below _ (T17.setTop (mkF m 87 #[.val (.int x0), .val (.int x1), .val (.int x2), .val (.int (1 : Int32)), .val (.ref r_V1_1), .val (.int u16), .val (.int (own_w1 u16)), .val (.int (1 : Int32))] [(.int u16), (.ref r_V1_1)]))
    refine own_cv X17 hx hZ hown (notFace_of_selects (args := #[]) (mvT hZ (hw _ (own_m 19 rfl)))) (hw _ (own_m 16 rfl)) (hw _ (own_m 17 rfl)) (hw _ (own_m 19 rfl)) (hw _ (own_m 18 rfl)) (hw _ (own_m 1 rfl)) (hw _ (own_m 20 rfl)) (by decide) E_V1_1 (rm := { frames := 0, cells := 0, slots := 0, locals := 0 }) (rm_l1 l Z a0 hw [] u16 r_V1_0 r_V1_1 h0 n0 Z0 S_V1_0 E_V1_0 S_V1_1 E_V1_1 ne_V1_0_V1_1) (by decide) (W := 0) (by decide) (by decide) (by decide) e17 (by rw [hml]; rfl) (argsL := [(.int u16)]) (lenOf own_pd1 rfl) (rest := []) rfl rfl (Nat.le_of_eq rfl) (hb hby at_87) ?_
    intro _ T27 L27 X27 hQ27
    obtain ⟨rfl, N27q, e27⟩ := hQ27
    have N27 := Fr.app N17 N27q
    show own_Go p e below _ (T27.setTop (mkF m 90 #[.val (.int x0), .val (.int x1), .val (.int x2), .val (.int (1 : Int32)), .val (.ref r_V1_1), .val (.int u16), .val (.int (own_w1 u16)), .val (.int (1 : Int32))] [(.int (own_l1 u16))]))
    have c28 : ¬ ((own_l1 u16) = (0 : Int32)) := by simp [own_l1, c18, c24]
    refine own_go (fun _ hr => XS.ifNo X27.here hx rfl (hb hby at_90) rfl ((if0 _ _).trans (feq c28).1) hr) ?_
    show own_Go p e below _ (T27.setTop (mkF m 93 #[.val (.int x0), .val (.int x1), .val (.int x2), .val (.int (1 : Int32)), .val (.ref r_V1_1), .val (.int u16), .val (.int (own_w1 u16)), .val (.int (1 : Int32))] []))
    refine own_go (fun _ hr => XS.iload X27.here hx rfl (hb hby at_93) rfl (XS.bipush X27.here hx rfl (hb hby at_95) hr)) ?_
    show own_Go p e below _ (T27.setTop (mkF m 97 #[.val (.int x0), .val (.int x1), .val (.int x2), .val (.int (1 : Int32)), .val (.ref r_V1_1), .val (.int u16), .val (.int (own_w1 u16)), .val (.int (1 : Int32))] [(.int (13 : Int32)), (.int u16)]))
    have c29 : ¬ (u16 = (13 : Int32)) := by rw [c24]; decide
    refine own_go (fun _ hr => XS.icmpNo X27.here hx rfl (hb hby at_97) rfl (feq c29).1 hr) ?_
    show own_Go p e below _ (T27.setTop (mkF m 100 #[.val (.int x0), .val (.int x1), .val (.int x2), .val (.int (1 : Int32)), .val (.ref r_V1_1), .val (.int u16), .val (.int (own_w1 u16)), .val (.int (1 : Int32))] []))
    refine own_go (fun _ hr => XS.iconst X27.here hx rfl (hb hby at_100) (XS.goto X27.here hx rfl (pc0 := 101) (pc' := 105) rfl (hb hby at_101) (by decide) (by decide) hr)) ?_
    show own_Go p e below _ (T27.setTop (mkF m 105 #[.val (.int x0), .val (.int x1), .val (.int x2), .val (.int (1 : Int32)), .val (.ref r_V1_1), .val (.int u16), .val (.int (own_w1 u16)), .val (.int (1 : Int32))] [(.int (1 : Int32))]))
    exact own_retN X27 hx hlk Bd.returns (t := .boolean) (by simp) (hb hby at_105) (by decide) (by decide) ⟨rfl, N27⟩
  refine own_go (fun _ hr => XS.icmpYes X17.here hx rfl (pc0 := 59) (pc' := 66) rfl (hb hby at_59) rfl (feq c24).2 (by decide) (by decide) hr) ?_
  show own_Go p e below _ (T17.setTop (mkF m 66 #[.val (.int x0), .val (.int x1), .val (.int x2), .val (.int (1 : Int32)), .val (.ref r_V1_1), .val (.int u16), .val (.int (own_w1 u16)), .unset] []))
  refine own_go (fun _ hr => XS.iconst X17.here hx rfl (hb hby at_66) (XS.istore X17.here hx rfl (hb hby at_67) rfl (l' := #[.val (.int x0), .val (.int x1), .val (.int x2), .val (.int (1 : Int32)), .val (.ref r_V1_1), .val (.int u16), .val (.int (own_w1 u16)), .val (.int (0 : Int32))]) rfl (XS.iload X17.here hx rfl (hb hby at_69) rfl (XS.iload X17.here hx rfl (hb hby at_71) rfl hr)))) ?_
  show own_Go p e below _ (T17.setTop (mkF m 73 #[.val (.int x0), .val (.int x1), .val (.int x2), .val (.int (1 : Int32)), .val (.ref r_V1_1), .val (.int u16), .val (.int (own_w1 u16)), .val (.int (0 : Int32))] [(.int (0 : Int32)), (.int (own_w1 u16))]))
  have c30 : (own_w1 u16) = (0 : Int32) := by simp [own_w1, c18, c24]
  refine own_go (fun _ hr => XS.icmpYes X17.here hx rfl (pc0 := 73) (pc' := 78) rfl (hb hby at_73) rfl (teq c30).1 (by decide) (by decide) hr) ?_
  show own_Go p e below _ (T17.setTop (mkF m 78 #[.val (.int x0), .val (.int x1), .val (.int x2), .val (.int (1 : Int32)), .val (.ref r_V1_1), .val (.int u16), .val (.int (own_w1 u16)), .val (.int (0 : Int32))] []))
  refine own_go (fun _ hr => XS.iload X17.here hx rfl (hb hby at_78) rfl hr) ?_
  show own_Go p e below _ (T17.setTop (mkF m 80 #[.val (.int x0), .val (.int x1), .val (.int x2), .val (.int (1 : Int32)), .val (.ref r_V1_1), .val (.int u16), .val (.int (own_w1 u16)), .val (.int (0 : Int32))] [(.int (own_w1 u16))]))
  have c31 : (own_w1 u16) = (0 : Int32) := by simp [own_w1, c18, c24]
  refine own_go (fun _ hr => XS.ifYes X17.here hx rfl (pc0 := 80) (pc' := 106) rfl (hb hby at_80) rfl ((if0 _ _).trans (teq c31).1) (by decide) (by decide) hr) ?_
  show own_Go p e below _ (T17.setTop (mkF m 106 #[.val (.int x0), .val (.int x1), .val (.int x2), .val (.int (1 : Int32)), .val (.ref r_V1_1), .val (.int u16), .val (.int (own_w1 u16)), .val (.int (0 : Int32))] []))
  refine own_go (fun _ hr => XS.iconst X17.here hx rfl (hb hby at_106) hr) ?_
  show own_Go p e below _ (T17.setTop (mkF m 107 #[.val (.int x0), .val (.int x1), .val (.int x2), .val (.int (1 : Int32)), .val (.ref r_V1_1), .val (.int u16), .val (.int (own_w1 u16)), .val (.int (0 : Int32))] [(.int (1 : Int32))]))
  exact own_retN X17 hx hlk Bd.returns (t := .boolean) (by simp) (hb hby at_107) (by decide) (by decide) ⟨rfl, N17⟩
set_option maxRecDepth 65536 in
set_option maxHeartbeats 40000000 in
theorem comes_1 {Post : Tables → Env → Array Value → State → Outcome → State → Prop} (hpost : ∀ tb e args s v u, (limb_1_1.after args s (.returned v) u = true ∧ limb_1_2.after args s (.returned v) u = true ∧ True) → FrameEnd s (.returned v) u (Jvm.fieldLocs frame_1_writes args s ++ Jvm.arrayLocs frame_1_arrays args s ++ Jvm.staticLocs frame_1_statics s) 0 0 → Post tb e args s (.returned v) u) :
    ArmFor flags0 classFile x code maxLocals ret World_1 tables_1 room_1 Calls_1 rest_1 Pre_1 Post := by
  intro l hfl _ _ p e ha hc hk s m args below hf hA hF happ hP
  obtain ⟨hcalls, hrest, hpre⟩ := hP
  obtain ⟨-, -, -, hnamed, -, -, -, hat⟩ := (Spec.applies_iff hf).mp happ
  obtain ⟨hg, hn⟩ := and_e (Cond.before_iff.mp (show (Jvm.Cond.and given_1 narrow_1).before args s = true from hpre))
  obtain ⟨g1, g2⟩ := and_e hg
  obtain ⟨g3, g4⟩ := and_e g2
  obtain ⟨g5, g6⟩ := and_e g4
  obtain ⟨w0, w1, w2, rfl⟩ : ∃ w0 w1 w2 : Value, args = #[w0, w1, w2] := by
    have hs : args.size = 3 := by simpa [Cond.value, given_1] using g1
    obtain ⟨L⟩ := args
    match L, hs with
    | [w0, w1, w2], _ => exact ⟨w0, w1, w2, rfl⟩
  have hw := fun d (hd : d ∈ tables_1) => atoms_spec (ws := Jvm.Cond.code x code maxLocals ret :: tables_1) hat d (List.mem_cons_of_mem _ hd)
  have hfit : Fit s := fun {y c} hc i hi => by
    obtain ⟨ha, rfl⟩ := Array.getElem?_eq_some_iff.mp hc
    have q := List.all_eq_true.mp ((Array.all_eq_true_iff_forall_mem.mp hF) _ (Array.getElem_mem ha)) i (List.mem_range.mpr hi)
    simpa [Array.getElem?_eq_getElem hi] using q
  obtain ⟨i0, ei0⟩ := is_v g3
  obtain rfl : w0 = (.int i0) := Option.some.inj ei0
  obtain ⟨i1, ei1⟩ := is_v g5
  obtain rfl : w1 = (.int i1) := Option.some.inj ei1
  obtain ⟨i2, ei2⟩ := is_v g6
  obtain rfl : w2 = (.int i2) := Option.some.inj ei2
  obtain ⟨g7, g8⟩ := and_e hn
  obtain ⟨g9, g10⟩ := and_e g8
  obtain ⟨g11, g12⟩ := and_e g10
  obtain ⟨r_V1_0, er_V1_0⟩ := exa_v g7
  have S_V1_0 := Sta.start er_V1_0 (Or.inr ⟨(hw _ (own_m 1 rfl)), (hw _ (own_m 2 rfl))⟩)
  have E_V1_0 := Exa.start er_V1_0 g7
  obtain ⟨r_V1_1, er_V1_1⟩ := exa_v g9
  have S_V1_1 := Sta.start er_V1_1 (Or.inr ⟨(hw _ (own_m 1 rfl)), (hw _ (own_m 13 rfl))⟩)
  have E_V1_1 := Exa.start er_V1_1 g9
  have F_V1_0_ordinal := Fld.start ((fld_at er_V1_0).symm.trans (own_eq_int g11))
  have F_V1_1_ordinal := Fld.start ((fld_at er_V1_1).symm.trans (own_eq_int g12))
  have ne_V1_0_V1_1 : r_V1_0 ≠ r_V1_1 := Fld.ne F_V1_0_ordinal F_V1_1_ordinal (by first | decide | simp)
  obtain ⟨n, o, h1, h2, h3, _, L, rfl, ⟨rfl, N⟩, hq⟩ := rm_law l s _ hw tables_1 i0 i1 i2 r_V1_0 r_V1_1 s.heap s.heap.size (Nat.le_refl _) S_V1_0 E_V1_0 S_V1_1 E_V1_1 ne_V1_0_V1_1 p e ha hc hk s m _ below hf ((Spec.applies_iff_loose hf).mp happ).1 ⟨rfl, State.Warmed39.refl s, rfl⟩ trivial
  refine ⟨n, _, h1, h2, h3, hpost _ _ _ _ _ _ ⟨Cond.after_iff.mpr rfl, Cond.after_iff.mpr (eq_i res_at (Term.int_eval (1)) rfl), trivial⟩ ⟨hq.1, hq.2.1, (hq.2.2.sift fun y hy => Or.inr (N y hy)).mono (by decide) (by decide)⟩⟩
theorem main_1_1 : Claimed_1_1 := comes_1 fun _ _ _ _ _ _ h hF => ⟨h.1, hF⟩
theorem main_1_2 : Claimed_1_2 := comes_1 fun _ _ _ _ _ _ h hF => ⟨h.2.1, hF⟩
end Jvm.Pilot.@@N@@
namespace Jvm.Pilot.@@N@@
open Jvm Jvm.ClassFile Sem Op Lib Jvm.Free Jvm.Stand Jvm.Pilot.@@N@@.Jvm.D
/-! MADE BY PROGRAM (witnessworld.py) out of the Statement's table words and the real class files: 12 classes; the members and pool entries that the words name. The judged class is class 1, her method 2. -/
namespace start1
open Jvm.ClassFile
def u (s : String) : CpInfo := .utf8 (stringToUtf16 s)
/-- a pool by its gaps: so many unusable entries, then the entry; so many at the end -/
def gap : Nat → List CpInfo → List CpInfo
  | 0, r => r
  | n + 1, r => .unusable :: gap n r
def poolList (es : List (Nat × CpInfo)) (last : Nat) : List CpInfo := es.foldr (fun e r => gap e.1 (e.2 :: r)) (gap last [])
def pool (es : List (Nat × CpInfo)) (last : Nat) : Array CpInfo := ⟨poolList es last⟩
def fileOf (pool : Array CpInfo) (this : Nat) (attrs : Array Attribute := #[]) (ms : Array MethodInfo := #[]) (fl : Nat := 33) (sup : Nat := 0) (ifs : Array Nat := #[]) (fds : Array FieldInfo := #[]) : ClassFile where
  minorVersion := 0
  majorVersion := 65
  constantPool := pool
  accessFlags := fl
  thisClass := this
  superClass := sup
  interfaces := ifs
  fields := fds
  methods := ms
  attributes := attrs
def plain (name : String) (sup : Option ClassId) : Class where
  name := name
  kind := .ordinary
  loader := none
  accessFlags := 33
  super := sup
  interfaces := #[]
  cf := none
  fields := #[]
  methods := #[]
  instanceTypes := #[]
  staticTypes := #[]
  resolved := #[]
  callSites := []
  init := .initialized
  statics := none
  mirror := none

def pool0 : Array CpInfo := pool [(5, u "<init>"), (0, u "()V"), (1, .class_ 10), (1, u "java/lang/Object")] 113

def k0m0 : Method := { name := "<init>", desc := "()V", sig := { parameters := [], returnType := none }, accessFlags := 1, code := none }
/-- java/lang/Object -/
def k0 : Class := { plain "java/lang/Object" none with
  accessFlags := 33
  interfaces := #[]
  cf := some (fileOf pool0 8 #[] #[{ accessFlags := 1, nameIndex := 5, descriptorIndex := 6, attributes := #[] }] 33 0 #[] #[])
  fields := #[]
  methods := #[k0m0]
  instanceTypes := #[]
  staticTypes := #[]
  resolved := Array.replicate 124 none
  statics := none }

def pool1 : Array CpInfo := pool [(2, .class_ 4), (1, u "java/lang/Object"), (0, u "<init>"), (0, u "()V"), (0, .integer 65546), (0, .integer 65669), (0, .fieldref 10 11), (0, .class_ 12), (0, .nameAndType 13 14), (0, u "com/example/fitzroy/fitzroy/XmlVersion"), (0, u "V1_1"), (0, u "Lcom/example/fitzroy/fitzroy/XmlVersion;"), (0, .fieldref 10 16), (0, .nameAndType 17 14), (0, u "V1_0"), (0, .methodref 19 20), (0, .class_ 21), (0, .nameAndType 22 23), (0, u "com/example/fitzroy/fitzroy/XmlVersionEndsLineWithCarriageReturnPinLaw"), (0, u "pick"), (0, u "(II)I"), (0, .methodref 10 25), (0, .nameAndType 26 27), (0, u "endsLineWithCarriageReturn"), (0, u "(I)Z"), (0, .methodref 10 29), (0, .nameAndType 30 27), (0, u "endsLine"), (3, u "law"), (0, u "(III)Z")] 2

def k1m0 : Method := { name := "<init>", desc := "()V", sig := { parameters := [], returnType := none }, accessFlags := 1, code := none }
def k1c1 : Code := { maxStack := 2, maxLocals := 3, code := method_2_code, exceptionTable := #[], attributes := #[] }
def k1m1 : Method := { name := "pick", desc := "(II)I", sig := { parameters := [.int, .int], returnType := some .int }, accessFlags := 10, code := some k1c1 }
def k1c2 : Code := { maxStack := 2, maxLocals := 8, code := code, exceptionTable := #[], attributes := #[] }
def k1m2 : Method := { name := "law", desc := "(III)Z", sig := { parameters := [.int, .int, .int], returnType := some .boolean }, accessFlags := 9, code := some k1c2 }
/-- com/example/fitzroy/fitzroy/XmlVersionEndsLineWithCarriageReturnPinLaw -/
def k1 : Class := { plain "com/example/fitzroy/fitzroy/XmlVersionEndsLineWithCarriageReturnPinLaw" (some 0) with
  accessFlags := 49
  interfaces := #[]
  cf := some (fileOf pool1 19 #[] #[{ accessFlags := 1, nameIndex := 5, descriptorIndex := 6, attributes := #[] }, { accessFlags := 10, nameIndex := 22, descriptorIndex := 23, attributes := #[] }, { accessFlags := 9, nameIndex := 34, descriptorIndex := 35, attributes := #[] }] 49 2 #[] #[])
  fields := #[]
  methods := #[k1m0, k1m1, k1m2]
  instanceTypes := #[]
  staticTypes := #[]
  resolved := Array.replicate 38 none
  statics := none }

def pool2 : Array CpInfo := pool [(1, .class_ 2), (0, u "java/lang/constant/Constable"), (0, .class_ 4), (0, u "java/lang/Object")] 6

/-- java/lang/constant/Constable -/
def k2 : Class := { plain "java/lang/constant/Constable" (some 0) with
  accessFlags := 1537
  interfaces := #[]
  cf := some (fileOf pool2 1 #[] #[] 1537 3 #[] #[])
  fields := #[]
  methods := #[]
  instanceTypes := #[]
  staticTypes := #[]
  resolved := Array.replicate 11 none
  statics := none }

def pool3 : Array CpInfo := pool [(1, .class_ 2), (0, u "java/lang/Comparable"), (0, .class_ 4), (0, u "java/lang/Object")] 7

/-- java/lang/Comparable -/
def k3 : Class := { plain "java/lang/Comparable" (some 0) with
  accessFlags := 1537
  interfaces := #[]
  cf := some (fileOf pool3 1 #[] #[] 1537 3 #[] #[])
  fields := #[]
  methods := #[]
  instanceTypes := #[]
  staticTypes := #[]
  resolved := Array.replicate 12 none
  statics := none }

def pool4 : Array CpInfo := pool [(1, .class_ 2), (0, u "java/io/Serializable"), (0, .class_ 4), (0, u "java/lang/Object")] 2

/-- java/io/Serializable -/
def k4 : Class := { plain "java/io/Serializable" (some 0) with
  accessFlags := 1537
  interfaces := #[]
  cf := some (fileOf pool4 1 #[] #[] 1537 3 #[] #[])
  fields := #[]
  methods := #[]
  instanceTypes := #[]
  staticTypes := #[]
  resolved := Array.replicate 7 none
  statics := none }

def pool5 : Array CpInfo := pool [(2, .class_ 4), (1, u "java/lang/Enum"), (0, u "name"), (0, u "Ljava/lang/String;"), (2, u "ordinal"), (0, u "I"), (1, .class_ 14), (1, u "java/lang/Object"), (4, u "hash"), (86, .class_ 108), (1, u "java/lang/Enum$EnumDesc"), (2, .class_ 112), (0, u "java/lang/constant/Constable"), (0, .class_ 114), (0, u "java/lang/Comparable"), (0, .class_ 116), (0, u "java/io/Serializable")] 87

/-- java/lang/Enum -/
def k5 : Class := { plain "java/lang/Enum" (some 0) with
  accessFlags := 1057
  interfaces := #[2, 3, 4]
  cf := some (fileOf pool5 2 #[.nestMembers #[106]] #[] 1057 12 #[111, 113, 115] #[{ accessFlags := 18, nameIndex := 5, descriptorIndex := 6, attributes := #[] }, { accessFlags := 18, nameIndex := 9, descriptorIndex := 10, attributes := #[] }, { accessFlags := 2, nameIndex := 19, descriptorIndex := 10, attributes := #[] }])
  fields := #[{ name := "name", type := (.object "java/lang/String"), accessFlags := 18, slot := 0, constantValue := 0 }, { name := "ordinal", type := .int, accessFlags := 18, slot := 1, constantValue := 0 }, { name := "hash", type := .int, accessFlags := 2, slot := 2, constantValue := 0 }]
  methods := #[]
  instanceTypes := #[(.object "java/lang/String"), .int, .int]
  staticTypes := #[]
  resolved := Array.replicate 204 none
  statics := none }

def pool6 : Array CpInfo := pool [(1, .class_ 2), (0, u "com/example/fitzroy/fitzroy/XmlVersion"), (2, u "V1_0"), (0, u "Lcom/example/fitzroy/fitzroy/XmlVersion;"), (0, .fieldref 1 8), (0, .nameAndType 9 6), (0, u "V1_1"), (2, u "$VALUES"), (0, u "[Lcom/example/fitzroy/fitzroy/XmlVersion;"), (6, .class_ 22), (1, u "java/lang/Enum"), (8, u "held"), (0, u "[I"), (2, u "referable"), (6, u "endsLine"), (0, u "(I)Z"), (14, u "NEXT_LINE"), (0, u "C"), (2, u "LINE_SEPARATOR"), (11, u "endsLineWithCarriageReturn")] 6

def k6c0 : Code := { maxStack := 2, maxLocals := 2, code := prog_20_method_6_code, exceptionTable := #[], attributes := #[] }
def k6m0 : Method := { name := "endsLine", desc := "(I)Z", sig := { parameters := [.int], returnType := some .boolean }, accessFlags := 0, code := some k6c0 }
def k6c1 : Code := { maxStack := 2, maxLocals := 2, code := prog_20_method_7_code, exceptionTable := #[], attributes := #[] }
def k6m1 : Method := { name := "endsLineWithCarriageReturn", desc := "(I)Z", sig := { parameters := [.int], returnType := some .boolean }, accessFlags := 0, code := some k6c1 }
/-- com/example/fitzroy/fitzroy/XmlVersion -/
def k6 : Class := { plain "com/example/fitzroy/fitzroy/XmlVersion" (some 5) with
  accessFlags := 16432
  interfaces := #[]
  cf := some (fileOf pool6 1 #[] #[{ accessFlags := 0, nameIndex := 42, descriptorIndex := 43, attributes := #[] }, { accessFlags := 0, nameIndex := 74, descriptorIndex := 43, attributes := #[] }] 16432 20 #[] #[{ accessFlags := 16409, nameIndex := 5, descriptorIndex := 6, attributes := #[] }, { accessFlags := 16409, nameIndex := 9, descriptorIndex := 6, attributes := #[] }, { accessFlags := 26, nameIndex := 58, descriptorIndex := 59, attributes := #[] }, { accessFlags := 26, nameIndex := 62, descriptorIndex := 59, attributes := #[] }, { accessFlags := 18, nameIndex := 31, descriptorIndex := 32, attributes := #[] }, { accessFlags := 18, nameIndex := 35, descriptorIndex := 32, attributes := #[] }, { accessFlags := 4122, nameIndex := 12, descriptorIndex := 13, attributes := #[] }])
  fields := #[{ name := "V1_0", type := (.object "com/example/fitzroy/fitzroy/XmlVersion"), accessFlags := 16409, slot := 0, constantValue := 0 }, { name := "V1_1", type := (.object "com/example/fitzroy/fitzroy/XmlVersion"), accessFlags := 16409, slot := 1, constantValue := 0 }, { name := "NEXT_LINE", type := .char, accessFlags := 26, slot := 2, constantValue := 0 }, { name := "LINE_SEPARATOR", type := .char, accessFlags := 26, slot := 3, constantValue := 0 }, { name := "held", type := (.array .int), accessFlags := 18, slot := 3, constantValue := 0 }, { name := "referable", type := (.array .int), accessFlags := 18, slot := 4, constantValue := 0 }, { name := "$VALUES", type := (.array (.object "com/example/fitzroy/fitzroy/XmlVersion")), accessFlags := 4122, slot := 4, constantValue := 0 }]
  methods := #[k6m0, k6m1]
  instanceTypes := #[(.object "java/lang/String"), .int, .int, (.array .int), (.array .int)]
  staticTypes := #[(.object "com/example/fitzroy/fitzroy/XmlVersion"), (.object "com/example/fitzroy/fitzroy/XmlVersion"), .char, .char, (.array (.object "com/example/fitzroy/fitzroy/XmlVersion"))]
  resolved := Array.replicate 81 none
  statics := some 0 }

def pool7 : Array CpInfo := pool [(1, u "java/lang/Cloneable"), (0, .class_ 1), (0, u "java/lang/Object"), (0, .class_ 3)] 3

/-- java/lang/Cloneable -/
def k7 : Class := { plain "java/lang/Cloneable" (some 0) with
  accessFlags := 1537
  interfaces := #[]
  cf := some (fileOf pool7 2 #[] #[] 1537 4 #[] #[])
  fields := #[]
  methods := #[]
  instanceTypes := #[]
  staticTypes := #[]
  resolved := Array.replicate 8 none
  statics := none }

/-- the primitive byte -/
def k8 : Class := { plain "byte" none with kind := .primitive 'B', accessFlags := 0x411 }
/-- [B -/
def k9 : Class := { plain "[B" (some 0) with kind := .array 8 .byte, interfaces := #[7, 4], accessFlags := 1041 }

/-- the primitive int -/
def k10 : Class := { plain "int" none with kind := .primitive 'I', accessFlags := 0x411 }
/-- [I -/
def k11 : Class := { plain "[I" (some 0) with kind := .array 10 .int, interfaces := #[7, 4], accessFlags := 1041 }

def heap : Heap := #[{ cls := 6, slots := #[.ref 1, .ref 2, .int 0, .int 0, .null], vm := .statics 6 },
  { cls := 6, slots := #[.null, .int 0, .int 0, .null, .null], vm := .none },
  { cls := 6, slots := #[.null, .int 1, .int 0, .null, .null], vm := .none }]
def classes : Array Class := #[k0, k1, k2, k3, k4, k5, k6, k7, k8, k9, k10, k11]
def interned : List (Array UInt16 × Addr) := []
def slotsUsed : Nat := 15
def theMethod : MethodId := ⟨1, 2⟩
def args0 : Array Value := #[.int 5, .int 5, .int 5]
def aboutOver (below : List Frame) : State where
  vm := { classes := classes, interned := interned.toArray }
  heap := heap
  slotsUsed := slotsUsed
  threads := #[{ frames := .invoking theMethod args0 :: below }]
def below0 : List Frame := [.native { method := ⟨0, 0⟩, args := #[] }]
def about1 : State := aboutOver below0
def p0 : Program := .bare "" "" ""
def e0 : Env := launch0.env 0 0 0
theorem w_frames : about1.frames = Frame.invoking theMethod args0 :: below0 := rfl
set_option maxRecDepth 65536 in
theorem w_args : argsFit about1.vm theMethod args0 = true := by decide +kernel
set_option maxRecDepth 65536 in
theorem w_heap : heapFits about1 = true := by decide +kernel
set_option maxRecDepth 65536 in
theorem w_runnable : about1.curStatus? = some .runnable := by decide +kernel
set_option maxRecDepth 65536 in
theorem w_alone : about1.alone = true := by decide +kernel
set_option maxRecDepth 65536 in
theorem w_named : about1.methodNamed? x = some theMethod := by decide +kernel
set_option maxRecDepth 65536 in
theorem w_hears : about1.hears theMethod below0 = true := by decide +kernel
set_option maxRecDepth 65536 in
theorem w_ripe : about1.ripe theMethod args0 below0 = true := by decide +kernel
theorem w_running : about1.status = .running := rfl
set_option maxRecDepth 65536 in
theorem w_room : about1.hasRoom e0.platform room_1 = true :=
  launch0.hasRoom_least _ room_1 (by decide +kernel) (by decide +kernel) (by decide +kernel) (by decide +kernel) (by decide +kernel) (by decide +kernel)
theorem allAtoms_all (ts : List Jvm.Cond) (a : Array Jvm.Value) (st : Jvm.State) : (allAtoms ts).before a st = ts.all (fun c => c.before a st) := by
  induction ts with
  | nil => rfl
  | cons c t ih =>
    show (Jvm.Cond.and c (allAtoms t)).before a st = _
    rw [Jvm.Cond.before_and, ih, List.all_cons]
def words1 : List Jvm.Cond := Jvm.Cond.code x code maxLocals ret :: tables_1
/-- a 'code' word, met by the world's own term for the bytes: nothing is compared byte by byte -/
theorem code_word {y : MethodName} {bytes : ByteArray} {mx : Nat} {rt : Option FieldType} {a : Array Value} {s : State} {m : MethodId} {meth : Method} {c : Code} (h1 : s.methodNamed? y = some m) (h2 : s.vm.method? m = some meth) (h3 : meth.code = some c) (h4 : c.code = bytes)
    (h5 : (c.maxLocals == mx && c.exceptionTable.isEmpty && decide (c.maxStack ≤ mostOperands) && decide (meth.sig.returnType = rt) && !meth.locks && decide (parseMethodDescriptor y.desc = some meth.sig)) = true) : (Jvm.Cond.code y bytes mx rt).before a s = true := by
  simp only [Bool.and_eq_true, beq_iff_eq, Bool.not_eq_true', decide_eq_true_eq] at h5
  obtain ⟨⟨⟨⟨⟨g1, g2⟩, g3⟩, g4⟩, g5⟩, g6⟩ := h5
  simp [Cond.before, Cond.holds, Cond.value, h1, h2, h3, h4, g1, g2, g3, g4, g5, g6]
def isCode : Jvm.Cond → Bool
  | .code _ _ _ _ => true
  | _ => false
theorem all_split {L : List Jvm.Cond} {P : Jvm.Cond → Bool} (h1 : L.all (fun c => isCode c || P c) = true) (h2 : ∀ c ∈ L.filter isCode, P c = true) : L.all P = true := by
  refine List.all_eq_true.mpr fun c hc => ?_
  have h := List.all_eq_true.mp h1 c hc
  rcases Bool.eq_false_or_eq_true (isCode c) with hi | hi
  · exact h2 c (List.mem_filter.mpr ⟨hc, hi⟩)
  · simpa [hi] using h
set_option maxRecDepth 65536 in
theorem w_c0 : (Jvm.Cond.code x code maxLocals ret).before args0 about1 = true := code_word (m := ⟨1, 2⟩) (meth := k1m2) (c := k1c2) (by decide +kernel) rfl rfl rfl (by decide +kernel)
set_option maxRecDepth 65536 in
theorem w_c1 : (Jvm.Cond.code ({ cls := "com/example/fitzroy/fitzroy/XmlVersionEndsLineWithCarriageReturnPinLaw", name := "pick", desc := "(II)I" } : Jvm.MethodName) method_2_code (3 : Nat) (Option.some Jvm.ClassFile.FieldType.int)).before args0 about1 = true := code_word (m := ⟨1, 1⟩) (meth := k1m1) (c := k1c1) (by decide +kernel) rfl rfl rfl (by decide +kernel)
set_option maxRecDepth 65536 in
theorem w_c2 : (Jvm.Cond.code ({ cls := "com/example/fitzroy/fitzroy/XmlVersion", name := "endsLineWithCarriageReturn", desc := "(I)Z" } : Jvm.MethodName) prog_20_method_7_code (2 : Nat) (Option.some Jvm.ClassFile.FieldType.boolean)).before args0 about1 = true := code_word (m := ⟨6, 1⟩) (meth := k6m1) (c := k6c1) (by decide +kernel) rfl rfl rfl (by decide +kernel)
set_option maxRecDepth 65536 in
theorem w_c3 : (Jvm.Cond.code ({ cls := "com/example/fitzroy/fitzroy/XmlVersion", name := "endsLine", desc := "(I)Z" } : Jvm.MethodName) prog_20_method_6_code (2 : Nat) (Option.some Jvm.ClassFile.FieldType.boolean)).before args0 about1 = true := code_word (m := ⟨6, 0⟩) (meth := k6m0) (c := k6c0) (by decide +kernel) rfl rfl rfl (by decide +kernel)
def codes1 : List Jvm.Cond := [Jvm.Cond.code x code maxLocals ret, Jvm.Cond.code ({ cls := "com/example/fitzroy/fitzroy/XmlVersionEndsLineWithCarriageReturnPinLaw", name := "pick", desc := "(II)I" } : Jvm.MethodName) method_2_code (3 : Nat) (Option.some Jvm.ClassFile.FieldType.int), Jvm.Cond.code ({ cls := "com/example/fitzroy/fitzroy/XmlVersion", name := "endsLineWithCarriageReturn", desc := "(I)Z" } : Jvm.MethodName) prog_20_method_7_code (2 : Nat) (Option.some Jvm.ClassFile.FieldType.boolean), Jvm.Cond.code ({ cls := "com/example/fitzroy/fitzroy/XmlVersion", name := "endsLine", desc := "(I)Z" } : Jvm.MethodName) prog_20_method_6_code (2 : Nat) (Option.some Jvm.ClassFile.FieldType.boolean)]
set_option maxRecDepth 65536 in
theorem codes_eq : words1.filter isCode = codes1 := rfl
theorem w_codes : ∀ c ∈ words1.filter isCode, c.before args0 about1 = true := by
  rw [codes_eq]
  intro c hc
  simp only [codes1, List.mem_cons, List.not_mem_nil, or_false] at hc
  rcases hc with rfl | rfl | rfl | rfl
  · exact w_c0
  · exact w_c1
  · exact w_c2
  · exact w_c3
set_option maxRecDepth 65536 in
theorem w_t1 : words1.all (fun c => isCode c || c.before args0 about1) = true := by decide +kernel
theorem w_tables : (allAtoms (Jvm.Cond.code x code maxLocals ret :: tables_1)).before args0 about1 = true := by
  rw [allAtoms_all]
  show words1.all (fun c => c.before args0 about1) = true
  refine all_split ?_ w_codes
  rw [w_t1]
set_option maxRecDepth 65536 in
theorem w_case : (Jvm.Cond.and given_1 narrow_1).before args0 about1 = true := by decide +kernel
theorem w_applies : (headSpec (Jvm.Cond.code x code maxLocals ret :: tables_1) room_1).applies x e0.platform about1 = true :=
  (Spec.applies_iff w_frames).mpr ⟨w_running, w_runnable, w_alone, w_named, w_hears, w_ripe, w_room, w_tables⟩
theorem atStart : AtStart classFile x code maxLocals ret World_1 tables_1 room_1 Calls_1 rest_1 Pre_1 launch0 p0 e0 about1 theMethod args0 below0 :=
  ⟨lists_1, trivial, launch0.admits_env _ _ _, launch0.least_env, fairChoices_fair.cas, fairChoices_fair.clock, w_frames, w_args, w_heap, w_applies, trivial, trivial, w_case⟩
end start1
theorem witness_1 : WitnessClaimed_1 := ⟨start1.p0, start1.e0, start1.about1, start1.theMethod, start1.args0, start1.below0, start1.atStart⟩
end Jvm.Pilot.@@N@@
