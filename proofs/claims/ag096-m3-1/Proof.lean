import JvmDerived
import JvmDerived.Pilot.@@N@@Statement
import JvmDerived.Pilot.@@N@@Code
set_option linter.unusedVariables false
set_option linter.unusedSimpArgs false
namespace Jvm.OwnKit
open Sem ClassFile Op Lib Jvm.Stand Jvm.Free Jvm.LawKit Jvm.RoadKit
def k_ushr (x y : Int32) : Int32 := (x.toUInt32 >>> (y &&& 31).toUInt32).toInt32
def k_ushrL (x : Int64) (y : Int32) : Int64 := (x.toUInt64 >>> (y &&& 63).toInt64.toUInt64).toInt64
def k_cmpL (x y : Int64) : Int32 := if x > y then 1 else if x = y then 0 else -1
/-- the state over whose tables the walk stands: the start itself, or (wd: a String constant may have been interned meanwhile) the start with tables grown since -/
def KBase (wd : Bool) (s s' : State) (n : Nat) : Prop := match wd with
  | true => ∃ (vm : Vm) (k : Nat), s' = s.setVm vm ∧ s.Since vm k ∧ k ≤ n
  | false => s' = s
/-- where a run stands: the state T with the heap h; what was written lies at n0 or above; of h0 all is kept but ws -/
def KPos (wd : Bool) (p : Program) (l : Launch) (e : Env) (R : Room) (s : State) (m : MethodId) (args : Array Value) (below : List Frame) (meth : Method) (c : Code) (Z : State) (own : String) (n0 : Nat) (h0 : Heap) (ws : List Addr) (T : State) (h : Heap) (cells slots : Nat) : Prop :=
  ∃ s' locs, Stand p l e R s' m args below meth c T locs cells slots ∧ KBase wd s s' h.size ∧ Z.Warmed39 s'.vm ∧ s'.vm.findClass own = some m.cls ∧ T.heap = h ∧ n0 ≤ h.size ∧ Fr n0 locs ∧ Keep h0 h ws
/-- what stands still in a body's walk -/
def KCx (tbl : List Jvm.Cond) (nm : String) (cod : ByteArray) (ml : Nat) (ret : Option FieldType) (p : Program) (meth : Method) (c : Code) (Z : State) (a0 : Array Value) : Prop :=
  p.tables.exec = Jvm.exec ∧ (∀ d ∈ tbl, d.before a0 Z = true) ∧ c.code = cod ∧ c.maxLocals = ml ∧ meth.sig.returnType = ret ∧ meth.name = nm ∧ meth.locks = false
/-- from this frame the run comes to an end that K speaks of -/
def KGo (p : Program) (e : Env) (below : List Frame) (K : State → Outcome → Prop) (T : State) (m : MethodId) (pc : Nat) (Ls : Array Slot) (st : List Value) : Prop :=
  ∃ s₂ o, Steps p.tables e below (T.setTop (mkF m pc Ls st)) s₂ ∧ s₂.status = .running ∧ Ended s₂ below o ∧ K s₂ o
/-- the frame of an end -/
def KEnde (wd : Bool) (s : State) (o : Outcome) (s₂ : State) (L : List Loc) (kc ks : Nat) : Prop := match wd with
  | true => ReturnedEndW s o s₂ L kc ks
  | false => FrameEnd s o s₂ L kc ks
/-- the end of a body that returns -/
def KEnd (wd : Bool) (s : State) (n0 : Nat) (h0 : Heap) (ws : List Addr) (Q : Option Value → Heap → Prop) (kc ks : Nat) (s₂ : State) (o : Outcome) : Prop :=
  ∃ v L, o = .returned v ∧ (Fr n0 L ∧ Keep h0 s₂.heap ws ∧ Q v s₂.heap) ∧ KEnde wd s o s₂ L kc ks
/-- a body's contract -/
def KCt (wd : Bool) (l : Launch) (y : MethodName) (cod : ByteArray) (ml : Nat) (ret : Option FieldType) (rm : Room) (Z : State) (n0 : Nat) (h0 : Heap) (as : Array Value) (ws : List Addr) (Q : Option Value → Heap → Prop) : Prop :=
  ∀ wsc : List Jvm.Cond, MetFree l y (head1 (Jvm.Cond.code y cod ml ret :: wsc) rm) (fun a U => a = as ∧ Z.Warmed39 U.vm ∧ U.heap = h0) (fun _ _ _ _ _ => True)
    (fun _ U o U' => ∃ v L, o = .returned v ∧ (Fr n0 L ∧ Keep h0 U'.heap ws ∧ Q v U'.heap) ∧ KEnde wd U o U' L rm.cells rm.slots)
section Kit
variable {wd : Bool} {p : Program} {l : Launch} {e : Env} {R : Room} {s : State} {m : MethodId} {args : Array Value} {below : List Frame} {meth : Method} {c : Code} {T : State} {cells slots : Nat} {Z : State} {a0 : Array Value} {h h' h0 : Heap} {n0 : Nat} {ws : List Addr} {K : State → Outcome → Prop}
  {tbl : List Jvm.Cond} {own nm : String} {cod : ByteArray} {ml : Nat} {ret : Option FieldType} {pc : Nat} {Ls : Array Slot} {st : List Value} {a b : Addr}
theorem KCx.exec (C : KCx tbl nm cod ml ret p meth c Z a0) : p.tables.exec = Jvm.exec := C.1
theorem KCx.hw (C : KCx tbl nm cod ml ret p meth c Z a0) : ∀ d ∈ tbl, d.before a0 Z = true := C.2.1
theorem KCx.cdE (C : KCx tbl nm cod ml ret p meth c Z a0) : c.code = cod := C.2.2.1
theorem KCx.mlE (C : KCx tbl nm cod ml ret p meth c Z a0) : c.maxLocals = ml := C.2.2.2.1
theorem KCx.rtE (C : KCx tbl nm cod ml ret p meth c Z a0) : meth.sig.returnType = ret := C.2.2.2.2.1
theorem KCx.nmE (C : KCx tbl nm cod ml ret p meth c Z a0) : meth.name = nm := C.2.2.2.2.2.1
theorem KCx.lk (C : KCx tbl nm cod ml ret p meth c Z a0) : meth.locks = false := C.2.2.2.2.2.2
theorem KCx.w (C : KCx tbl nm cod ml ret p meth c Z a0) (i : Nat) {d : Jvm.Cond} (q : tbl[i]? = some d) : d.before a0 Z = true := C.hw d (List.mem_of_getElem? q)
theorem KBase.mono {s' : State} {n n' : Nat} (B : KBase wd s s' n) (h : n ≤ n') : KBase wd s s' n' := by
  cases wd
  · exact B
  · obtain ⟨vm, k, h1, h2, h3⟩ := B; exact ⟨vm, k, h1, h2, Nat.le_trans h3 h⟩
theorem KPos.here (P : KPos wd p l e R s m args below meth c Z own n0 h0 ws T h cells slots) : At T m c below := by obtain ⟨_, _, X, -⟩ := P; exact X.here
theorem KPos.more (P : KPos wd p l e R s m args below meth c Z own n0 h0 ws T h cells slots) {cells' slots' : Nat} (hc : cells ≤ cells') (hs : slots ≤ slots') : KPos wd p l e R s m args below meth c Z own n0 h0 ws T h cells' slots' := by
  obtain ⟨s', L, X, r⟩ := P; exact ⟨s', L, X.more hc hs, r⟩
theorem KPos.size (P : KPos wd p l e R s m args below meth c Z own n0 h0 ws T h cells slots) : n0 ≤ h.size := by obtain ⟨_, _, _, _, _, _, _, r, -⟩ := P; exact r
theorem KPos.kept (P : KPos wd p l e R s m args below meth c Z own n0 h0 ws T h cells slots) : Keep h0 h ws := by obtain ⟨_, _, _, _, _, _, _, _, _, r⟩ := P; exact r
theorem KGo.step {T' : State} {pc' : Nat} {Ls' : Array Slot} {st' : List Value} (k : KGo p e below K T' m pc' Ls' st') (q : ∀ t, Steps p.tables e below (T'.setTop (mkF m pc' Ls' st')) t → Steps p.tables e below (T.setTop (mkF m pc Ls st)) t) : KGo p e below K T m pc Ls st := by
  obtain ⟨x, y, u, r⟩ := k; exact ⟨x, y, q _ u, r⟩
theorem KGo.cast {Ls' : Array Slot} {st' : List Value} (k : KGo p e below K T m pc Ls' st') (q : Ls' = Ls) (r : st' = st) : KGo p e below K T m pc Ls st := by subst q r; exact k
/-- a body is entered -/
theorem k_enter {y : MethodName} {rm : Room} {as : Array Value} {Q : Option Value → Heap → Prop} (hp : plainFor y = true) (hw : ∀ d ∈ tbl, d.before a0 Z = true) (hn : n0 ≤ h0.size) (hef : ∀ m, entryFrame m as ml = mkF m 0 Ls [])
    (body : ∀ p e s m below meth c T, KCx tbl y.name cod ml ret p meth c Z a0 → KPos wd p l e rm s m as below meth c Z y.cls n0 h0 ws T h0 0 0 → KGo p e below (KEnd wd s n0 h0 ws Q rm.cells rm.slots) T m 0 Ls []) : KCt wd l y cod ml ret rm Z n0 h0 as ws Q := by
  intro wsc
  refine MetFree.of_bodySF hp hisR ?_
  intro p e s m args below meth c s₁ Bd hml0 hP hK
  obtain ⟨rfl, hZ, hh⟩ := hP
  have B : KBase wd s s h0.size := by
    cases wd
    · rfl
    · exact ⟨s.vm, 0, rfl, State.WarmedH.since (State.WarmedH.refl s) 0, Nat.zero_le _⟩
  have g := body p e s m below meth c s₁ ⟨Bd.exec, hw, Bd.bytes, hml0, Bd.returns, (name_of_methodNamed Bd.named Bd.method).1, Bd.notSynchronized⟩ ⟨s, [], Stand.of_body Bd, B, hZ, findClass_of_methodNamed Bd.named, by rw [← hh, Bd.state]; rfl, hn, Fr.nil _, Keep.refl _ _⟩
  obtain ⟨s₂, o, g1, g2, g3, v, L, g4, g5, g6⟩ := g
  exact ⟨s₂, o, castTop (hef m) g1, g2, g3, v, L, g4, g5, g6⟩
theorem KCt.plain {y : MethodName} {rm : Room} {as : Array Value} {Q : Option Value → Heap → Prop} (k : KCt false l y cod ml ret rm Z n0 h0 as ws Q) : MetFree l y (head1 [Jvm.Cond.code y cod ml ret] rm) (fun a U => a = as ∧ Z.Warmed39 U.vm ∧ U.heap = h0) (fun _ _ _ _ _ => True)
    (fun _ U o U' => ∃ v L, o = .returned v ∧ (Fr n0 L ∧ Keep h0 U'.heap ws ∧ Q v U'.heap) ∧ FrameEnd U o U' L rm.cells rm.slots) := k []
/-- a contract said more weakly -/
theorem KCt.imp {y : MethodName} {rm : Room} {as : Array Value} {Q Q' : Option Value → Heap → Prop} (k : KCt wd l y cod ml ret rm Z n0 h0 as ws Q) (q : ∀ v h, Q v h → Q' v h) : KCt wd l y cod ml ret rm Z n0 h0 as ws Q' := by
  intro wsc p e h1 h2 h3 s m args below h4 h5 h6 h7
  obtain ⟨n, o, g1, g2, g3, v, L, g4, ⟨g5, g6, g7⟩, g8⟩ := k wsc p e h1 h2 h3 s m args below h4 h5 h6 h7
  exact ⟨n, o, g1, g2, g3, v, L, g4, ⟨g5, g6, q _ _ g7⟩, g8⟩
/-! ### returns -/
theorem k_retVal {Q : Option Value → Heap → Prop} {kc ks : Nat} {v : Option Value} (C : KCx tbl nm cod ml ret p meth c Z a0) (P : KPos wd p l e R s m args below meth c Z own n0 h0 ws T h cells slots) (hv : ret = none → v = none) (hc : cells ≤ kc) (hs : slots ≤ ks) (hQ : Q v h)
    (q : ∀ fs, (∀ (f : JFrame) (acts : List Action), f.method = m → f.locked = none → f.entered = [] → (doReturn e (T.setTop f) acts v).1 = T.setFrames fs) → Steps p.tables e below (T.setTop (mkF m pc Ls st)) (T.setFrames fs)) : KGo p e below (KEnd wd s n0 h0 ws Q kc ks) T m pc Ls st := by
  obtain ⟨s', L, X, B, hZ, hown, eT, hn, hF, hk⟩ := P
  have hl : meth.locks = false := C.lk
  have X2 := X.more hc hs
  cases wd
  · cases B
    obtain ⟨fs, hr, hrun, hended, hW, hsame⟩ := X2.leave (v := v) (fun q => hv (C.rtE.symm.trans q)) hl
    exact ⟨_, _, q fs hr, hrun, hended, v, L, rfl, ⟨hF, by show Keep h0 T.heap ws; rw [eT]; exact hk, by show Q v T.heap; rw [eT]; exact hQ⟩, ⟨_, rfl⟩, hW, hsame⟩
  · obtain ⟨vm, k, rfl, hS, hk0⟩ := B
    obtain ⟨fs, hr, hrun, hended, hW⟩ := X2.leaveW hS (by rw [eT]; exact hk0) (v := v) (fun q => hv (C.rtE.symm.trans q)) hl
    exact ⟨_, _, q fs hr, hrun, hended, v, L, rfl, ⟨hF, by show Keep h0 T.heap ws; rw [eT]; exact hk, by show Q v T.heap; rw [eT]; exact hQ⟩, hW⟩
theorem k_retV {Q : Option Value → Heap → Prop} {kc ks : Nat} (C : KCx tbl nm cod ml none p meth c Z a0) (P : KPos wd p l e R s m args below meth c Z own n0 h0 ws T h cells slots) (hd : decode cod pc = .ok (.return_, 1)) (hc : cells ≤ kc) (hs : slots ≤ ks) (hQ : Q none h) : KGo p e below (KEnd wd s n0 h0 ws Q kc ks) T m pc Ls [] :=
  k_retVal C P (fun _ => rfl) hc hs hQ fun fs hr => by obtain ⟨s', L, X, -⟩ := P; exact X.returnOut C.1 C.rtE (hb C.cdE hd) hr
theorem k_retI {Q : Option Value → Heap → Prop} {kc ks : Nat} {z : Int32} (C : KCx tbl nm cod ml (some .int) p meth c Z a0) (P : KPos wd p l e R s m args below meth c Z own n0 h0 ws T h cells slots) (hd : decode cod pc = .ok (.ireturn, 1)) (hc : cells ≤ kc) (hs : slots ≤ ks) (hQ : Q (some (.int z)) h) : KGo p e below (KEnd wd s n0 h0 ws Q kc ks) T m pc Ls (.int z :: st) :=
  k_retVal C P (fun q => nomatch q) hc hs hQ fun fs hr => by
    obtain ⟨s', L, X, -⟩ := P
    exact retOut X C.1 C.rtE (rfl : narrow .int (.int z) = .int z) (Or.inl ⟨rfl, Or.inl rfl, _, rfl⟩) (hb C.cdE hd) hr
theorem k_retZ {Q : Option Value → Heap → Prop} {kc ks : Nat} {z z' : Int32} {t : FieldType} (C : KCx tbl nm cod ml (some t) p meth c Z a0) (P : KPos wd p l e R s m args below meth c Z own n0 h0 ws T h cells slots) (ht : t = .boolean ∨ t = .byte ∨ t = .char ∨ t = .short) (hd : decode cod pc = .ok (.ireturn, 1)) (hz : nar t z = z') (hc : cells ≤ kc) (hs : slots ≤ ks) (hQ : Q (some (.int z')) h) : KGo p e below (KEnd wd s n0 h0 ws Q kc ks) T m pc Ls (.int z :: st) :=
  k_retVal C P (fun q => nomatch q) hc hs hQ fun fs hr => by
    subst hz
    obtain ⟨s', L, X, -⟩ := P
    exact retN X C.1 C.rtE ht (hb C.cdE hd) hr
theorem k_retJ {Q : Option Value → Heap → Prop} {kc ks : Nat} {z : Int64} (C : KCx tbl nm cod ml (some .long) p meth c Z a0) (P : KPos wd p l e R s m args below meth c Z own n0 h0 ws T h cells slots) (hd : decode cod pc = .ok (.lreturn, 1)) (hc : cells ≤ kc) (hs : slots ≤ ks) (hQ : Q (some (.long z)) h) : KGo p e below (KEnd wd s n0 h0 ws Q kc ks) T m pc Ls (.long z :: st) :=
  k_retVal C P (fun q => nomatch q) hc hs hQ fun fs hr => by
    obtain ⟨s', L, X, -⟩ := P
    exact retOut X C.1 C.rtE (rfl : narrow .long (.long z) = .long z) (Or.inr (Or.inl ⟨rfl, rfl, _, rfl⟩)) (hb C.cdE hd) hr
theorem k_retD {Q : Option Value → Heap → Prop} {kc ks : Nat} {z : UInt64} (C : KCx tbl nm cod ml (some .double) p meth c Z a0) (P : KPos wd p l e R s m args below meth c Z own n0 h0 ws T h cells slots) (hd : decode cod pc = .ok (.dreturn, 1)) (hc : cells ≤ kc) (hs : slots ≤ ks) (hQ : Q (some (.double z)) h) : KGo p e below (KEnd wd s n0 h0 ws Q kc ks) T m pc Ls (.double z :: st) :=
  k_retVal C P (fun q => nomatch q) hc hs hQ fun fs hr => by
    obtain ⟨s', L, X, -⟩ := P
    exact retOut X C.1 C.rtE (rfl : narrow .double (.double z) = .double z) (Or.inr (Or.inr (Or.inl ⟨rfl, rfl, _, rfl⟩))) (hb C.cdE hd) hr
theorem k_narrow_ref {t : FieldType} {v : Value} (hv : v.isRef = true) : narrow t v = v := by rcases ref_cases hv with rfl | ⟨x, rfl⟩ <;> cases t <;> rfl
theorem k_retA {Q : Option Value → Heap → Prop} {kc ks : Nat} {v : Value} {t : FieldType} (C : KCx tbl nm cod ml (some t) p meth c Z a0) (P : KPos wd p l e R s m args below meth c Z own n0 h0 ws T h cells slots) (hd : decode cod pc = .ok (.areturn, 1)) (ht : t.isReference = true) (hv : v.isRef = true) (hc : cells ≤ kc) (hs : slots ≤ ks) (hQ : Q (some v) h) : KGo p e below (KEnd wd s n0 h0 ws Q kc ks) T m pc Ls (v :: st) :=
  k_retVal C P (fun q => nomatch q) hc hs hQ fun fs hr => by
    obtain ⟨s', L, X, -⟩ := P
    exact retOut X C.1 C.rtE (k_narrow_ref hv) (Or.inr (Or.inr (Or.inr (Or.inr ⟨rfl, ht, hv⟩)))) (hb C.cdE hd) hr
theorem k_10 : ¬ (1 : Int32) = 0 := by decide
theorem k_01 : (0 : Int32) = 0 := rfl
/-! ### branches -/
def CondP (cd : ClassFile.Cond) (x y : Int32) : Prop := match cd with | .eq => x = y | .ne => ¬ x = y | .lt => x < y | .ge => ¬ x < y | .gt => y < x | .le => ¬ y < x
def CondN (cd : ClassFile.Cond) (x y : Int32) : Prop := match cd with | .eq => ¬ x = y | .ne => x = y | .lt => ¬ x < y | .ge => x < y | .gt => ¬ y < x | .le => y < x
theorem k_condP {cd : ClassFile.Cond} {x y : Int32} (h : CondP cd x y) : if_icmp.holds cd x y = true := by
  cases cd <;> first | exact (teq h).1 | exact (feq h).2 | exact (tlt h).1 | exact (flt h).2.1 | exact (tlt h).2.2.1 | exact (flt h).2.2.2
theorem k_condN {cd : ClassFile.Cond} {x y : Int32} (h : CondN cd x y) : if_icmp.holds cd x y = false := by
  cases cd <;> first | exact (feq h).1 | exact (teq h).2 | exact (flt h).1 | exact (tlt h).2.1 | exact (flt h).2.2.1 | exact (tlt h).2.2.2
theorem k_condT {cd : ClassFile.Cond} (x y : Int32) : CondP cd x y ∨ CondN cd x y := by
  cases cd <;> simp only [CondP, CondN] <;> first | exact Classical.em _ | exact (Classical.em _).symm
theorem k_ifY {cd : ClassFile.Cond} {x : Int32} {o : Int} (C : KCx tbl nm cod ml ret p meth c Z a0) (P : KPos wd p l e R s m args below meth c Z own n0 h0 ws T h cells slots) (hd : decode cod pc = .ok (.ifCond cd o, 3)) (hc : CondP cd x 0) (ho : 0 ≤ (pc : Int) + o) {pc' : Nat} (hp : ((pc : Int) + o).toNat = pc') (k : KGo p e below K T m pc' Ls st) : KGo p e below K T m pc Ls (.int x :: st) :=
  k.step fun t q => XS.ifYes P.here C.1 rfl rfl (hb C.cdE hd) rfl ((if0 _ _).trans (k_condP hc)) ho hp q
theorem k_ifN {cd : ClassFile.Cond} {x : Int32} {o : Int} (C : KCx tbl nm cod ml ret p meth c Z a0) (P : KPos wd p l e R s m args below meth c Z own n0 h0 ws T h cells slots) (hd : decode cod pc = .ok (.ifCond cd o, 3)) (hc : CondN cd x 0) {pc' : Nat} (hp : pc + 3 = pc') (k : KGo p e below K T m pc' Ls st) : KGo p e below K T m pc Ls (.int x :: st) := by
  subst hp; exact k.step fun t q => XS.ifNo P.here C.1 rfl (hb C.cdE hd) rfl ((if0 _ _).trans (k_condN hc)) q
theorem k_ifB {cd : ClassFile.Cond} {x : Int32} {o : Int} (C : KCx tbl nm cod ml ret p meth c Z a0) (P : KPos wd p l e R s m args below meth c Z own n0 h0 ws T h cells slots) (hd : decode cod pc = .ok (.ifCond cd o, 3)) (ho : 0 ≤ (pc : Int) + o) {pcY pcN : Nat} (hp : ((pc : Int) + o).toNat = pcY) (hp' : pc + 3 = pcN) (kY : CondP cd x 0 → KGo p e below K T m pcY Ls st) (kN : CondN cd x 0 → KGo p e below K T m pcN Ls st) : KGo p e below K T m pc Ls (.int x :: st) :=
  (k_condT x 0).elim (fun q => k_ifY C P hd q ho hp (kY q)) (fun q => k_ifN C P hd q hp' (kN q))
theorem k_icY {cd : ClassFile.Cond} {x y : Int32} {o : Int} (C : KCx tbl nm cod ml ret p meth c Z a0) (P : KPos wd p l e R s m args below meth c Z own n0 h0 ws T h cells slots) (hd : decode cod pc = .ok (.if_icmp cd o, 3)) (hc : CondP cd x y) (ho : 0 ≤ (pc : Int) + o) {pc' : Nat} (hp : ((pc : Int) + o).toNat = pc') (k : KGo p e below K T m pc' Ls st) : KGo p e below K T m pc Ls (.int y :: .int x :: st) :=
  k.step fun t q => XS.icmpYes P.here C.1 rfl rfl (hb C.cdE hd) rfl (k_condP hc) ho hp q
theorem k_icN {cd : ClassFile.Cond} {x y : Int32} {o : Int} (C : KCx tbl nm cod ml ret p meth c Z a0) (P : KPos wd p l e R s m args below meth c Z own n0 h0 ws T h cells slots) (hd : decode cod pc = .ok (.if_icmp cd o, 3)) (hc : CondN cd x y) {pc' : Nat} (hp : pc + 3 = pc') (k : KGo p e below K T m pc' Ls st) : KGo p e below K T m pc Ls (.int y :: .int x :: st) := by
  subst hp; exact k.step fun t q => XS.icmpNo P.here C.1 rfl (hb C.cdE hd) rfl (k_condN hc) q
theorem k_icB {cd : ClassFile.Cond} {x y : Int32} {o : Int} (C : KCx tbl nm cod ml ret p meth c Z a0) (P : KPos wd p l e R s m args below meth c Z own n0 h0 ws T h cells slots) (hd : decode cod pc = .ok (.if_icmp cd o, 3)) (ho : 0 ≤ (pc : Int) + o) {pcY pcN : Nat} (hp : ((pc : Int) + o).toNat = pcY) (hp' : pc + 3 = pcN) (kY : CondP cd x y → KGo p e below K T m pcY Ls st) (kN : CondN cd x y → KGo p e below K T m pcN Ls st) : KGo p e below K T m pc Ls (.int y :: .int x :: st) :=
  (k_condT x y).elim (fun q => k_icY C P hd q ho hp (kY q)) (fun q => k_icN C P hd q hp' (kN q))
theorem k_goto {o : Int} (C : KCx tbl nm cod ml ret p meth c Z a0) (P : KPos wd p l e R s m args below meth c Z own n0 h0 ws T h cells slots) (hd : decode cod pc = .ok (.goto o, 3)) (ho : 0 ≤ (pc : Int) + o) {pc' : Nat} (hp : ((pc : Int) + o).toNat = pc') (k : KGo p e below K T m pc' Ls st) : KGo p e below K T m pc Ls st :=
  k.step fun t q => XS.goto P.here C.1 rfl rfl (hb C.cdE hd) ho hp q
theorem k_nullY {o : Int} (C : KCx tbl nm cod ml ret p meth c Z a0) (P : KPos wd p l e R s m args below meth c Z own n0 h0 ws T h cells slots) (hd : decode cod pc = .ok (.ifnull o, 3)) (ho : 0 ≤ (pc : Int) + o) {pc' : Nat} (hp : ((pc : Int) + o).toNat = pc') (k : KGo p e below K T m pc' Ls st) : KGo p e below K T m pc Ls (.null :: st) :=
  k.step fun t q => XS.ifnullYes P.here C.1 rfl rfl (hb C.cdE hd) rfl ho hp q
theorem k_nullN {o : Int} (C : KCx tbl nm cod ml ret p meth c Z a0) (P : KPos wd p l e R s m args below meth c Z own n0 h0 ws T h cells slots) (hd : decode cod pc = .ok (.ifnull o, 3)) {pc' : Nat} (hp : pc + 3 = pc') (k : KGo p e below K T m pc' Ls st) : KGo p e below K T m pc Ls (.ref a :: st) := by
  subst hp; exact k.step fun t q => XS.ifnullNo P.here C.1 rfl (hb C.cdE hd) rfl q
theorem k_nonnullY {o : Int} (C : KCx tbl nm cod ml ret p meth c Z a0) (P : KPos wd p l e R s m args below meth c Z own n0 h0 ws T h cells slots) (hd : decode cod pc = .ok (.ifnonnull o, 3)) (ho : 0 ≤ (pc : Int) + o) {pc' : Nat} (hp : ((pc : Int) + o).toNat = pc') (k : KGo p e below K T m pc' Ls st) : KGo p e below K T m pc Ls (.ref a :: st) :=
  k.step fun t q => XS.ifnonnullYes P.here C.1 rfl rfl (hb C.cdE hd) rfl ho hp q
theorem k_nonnullN {o : Int} (C : KCx tbl nm cod ml ret p meth c Z a0) (P : KPos wd p l e R s m args below meth c Z own n0 h0 ws T h cells slots) (hd : decode cod pc = .ok (.ifnonnull o, 3)) {pc' : Nat} (hp : pc + 3 = pc') (k : KGo p e below K T m pc' Ls st) : KGo p e below K T m pc Ls (.null :: st) := by
  subst hp; exact k.step fun t q => XS.ifnonnullNo P.here C.1 rfl (hb C.cdE hd) rfl q
theorem k_acB {cd : ClassFile.ACond} {x y : Value} {o : Int} (C : KCx tbl nm cod ml ret p meth c Z a0) (P : KPos wd p l e R s m args below meth c Z own n0 h0 ws T h cells slots) (hd : decode cod pc = .ok (.if_acmp cd o, 3)) (hx : x.isRef = true) (hy : y.isRef = true) (ho : 0 ≤ (pc : Int) + o) {pcY pcN : Nat} (hp : ((pc : Int) + o).toNat = pcY) (hp' : pc + 3 = pcN)
    (kY : XT.acmp cd x y = true → KGo p e below K T m pcY Ls st) (kN : XT.acmp cd x y = false → KGo p e below K T m pcN Ls st) : KGo p e below K T m pc Ls (y :: x :: st) := by
  cases q : XT.acmp cd x y
  · subst hp'; exact (kN q).step fun t r => XT.acmpNo P.here C.1 rfl (hb C.cdE hd) rfl hx hy q r
  · exact (kY q).step fun t r => XT.acmpYes P.here C.1 rfl rfl (hb C.cdE hd) rfl hx hy q ho hp r
/-- a condition laid on the stack as 1 or 0: if.., iconst, k_goto, iconst -/
theorem k_ternIf {cd : ClassFile.Cond} {x : Int32} {o : Int} {i j : Int} {vN vY : Int32} {Pp : Prop} [Decidable Pp] (C : KCx tbl nm cod ml ret p meth c Z a0) (P : KPos wd p l e R s m args below meth c Z own n0 h0 ws T h cells slots)
    (hd : decode cod pc = .ok (.ifCond cd o, 3)) {p1 p2 p3 p4 : Nat} (d1 : decode cod p1 = .ok (.iconst i, 1)) (d2 : decode cod p2 = .ok (.goto 4, 3)) (d3 : decode cod p3 = .ok (.iconst j, 1)) (q1 : pc + 3 = p1) (q2 : p1 + 1 = p2) (q3 : ((pc : Int) + o).toNat = p3) (q0 : 0 ≤ (pc : Int) + o) (q4 : p3 + 1 = p4) (q5 : p2 + 4 = p4)
    (hi : Int32.ofInt i = vN) (hj : Int32.ofInt j = vY) (hY : CondP cd x 0 → Pp) (hN : CondN cd x 0 → ¬ Pp) (k : KGo p e below K T m p4 Ls (.int (if Pp then vY else vN) :: st)) : KGo p e below K T m pc Ls (.int x :: st) := by
  refine k_ifB C P hd q0 q3 q1 (fun q => ?_) (fun q => ?_)
  · rw [if_pos (hY q)] at k
    subst q4 hj; exact k.step fun t r => XS.iconst P.here C.1 rfl (hb C.cdE d3) r
  · rw [if_neg (hN q)] at k
    subst hi q2
    have k2 : KGo p e below K T m (p1 + 1) Ls (.int (Int32.ofInt i) :: st) := k_goto C P d2 (by omega) (by omega) k
    exact k2.step fun t r => XS.iconst P.here C.1 rfl (hb C.cdE d1) r
theorem k_ternIc {cd : ClassFile.Cond} {x y : Int32} {o : Int} {i j : Int} {vN vY : Int32} {Pp : Prop} [Decidable Pp] (C : KCx tbl nm cod ml ret p meth c Z a0) (P : KPos wd p l e R s m args below meth c Z own n0 h0 ws T h cells slots)
    (hd : decode cod pc = .ok (.if_icmp cd o, 3)) {p1 p2 p3 p4 : Nat} (d1 : decode cod p1 = .ok (.iconst i, 1)) (d2 : decode cod p2 = .ok (.goto 4, 3)) (d3 : decode cod p3 = .ok (.iconst j, 1)) (q1 : pc + 3 = p1) (q2 : p1 + 1 = p2) (q3 : ((pc : Int) + o).toNat = p3) (q0 : 0 ≤ (pc : Int) + o) (q4 : p3 + 1 = p4) (q5 : p2 + 4 = p4)
    (hi : Int32.ofInt i = vN) (hj : Int32.ofInt j = vY) (hY : CondP cd x y → Pp) (hN : CondN cd x y → ¬ Pp) (k : KGo p e below K T m p4 Ls (.int (if Pp then vY else vN) :: st)) : KGo p e below K T m pc Ls (.int y :: .int x :: st) := by
  refine k_icB C P hd q0 q3 q1 (fun q => ?_) (fun q => ?_)
  · rw [if_pos (hY q)] at k
    subst q4 hj; exact k.step fun t r => XS.iconst P.here C.1 rfl (hb C.cdE d3) r
  · rw [if_neg (hN q)] at k
    subst hi q2
    have k2 : KGo p e below K T m (p1 + 1) Ls (.int (Int32.ofInt i) :: st) := k_goto C P d2 (by omega) (by omega) k
    exact k2.step fun t r => XS.iconst P.here C.1 rfl (hb C.cdE d1) r
theorem k_iload (C : KCx tbl nm cod ml ret p meth c Z a0) (P : KPos wd p l e R s m args below meth c Z own n0 h0 ws T h cells slots) {k : Nat} {v : Int32} (hd : decode cod pc = .ok (.iload k, 2)) (hl : Ls[k]? = some (.val (.int v))) {pc' : Nat} (hp : pc + 2 = pc') (k' : KGo p e below K T m pc' Ls (.int v :: st)) : KGo p e below K T m pc Ls (st) := by
  subst hp; exact k'.step fun t q => XS.iload P.here C.1 rfl (hb C.cdE hd) hl q
theorem k_iloadN (C : KCx tbl nm cod ml ret p meth c Z a0) (P : KPos wd p l e R s m args below meth c Z own n0 h0 ws T h cells slots) {k : Fin 4} {v : Int32} (hd : decode cod pc = .ok (.iload_n k, 1)) (hl : Ls[k.val]? = some (.val (.int v))) {pc' : Nat} (hp : pc + 1 = pc') (k' : KGo p e below K T m pc' Ls (.int v :: st)) : KGo p e below K T m pc Ls (st) := by
  subst hp; exact k'.step fun t q => XS.iloadN P.here C.1 rfl (hb C.cdE hd) hl q
theorem k_istore (C : KCx tbl nm cod ml ret p meth c Z a0) (P : KPos wd p l e R s m args below meth c Z own n0 h0 ws T h cells slots) {k : Nat} {x : Int32} {l' : Array Slot} (hd : decode cod pc = .ok (.istore k, 2)) (hl : storeLocals Ls k (.int x) = some l') {pc' : Nat} (hp : pc + 2 = pc') (k' : KGo p e below K T m pc' l' (st)) : KGo p e below K T m pc Ls (.int x :: st) := by
  subst hp; exact k'.step fun t q => XS.istore P.here C.1 rfl (hb C.cdE hd) rfl hl q
theorem k_istoreN (C : KCx tbl nm cod ml ret p meth c Z a0) (P : KPos wd p l e R s m args below meth c Z own n0 h0 ws T h cells slots) {k : Fin 4} {x : Int32} {l' : Array Slot} (hd : decode cod pc = .ok (.istore_n k, 1)) (hl : storeLocals Ls k.val (.int x) = some l') {pc' : Nat} (hp : pc + 1 = pc') (k' : KGo p e below K T m pc' l' (st)) : KGo p e below K T m pc Ls (.int x :: st) := by
  subst hp; exact k'.step fun t q => XS.istoreN P.here C.1 rfl (hb C.cdE hd) rfl hl q
theorem k_lload (C : KCx tbl nm cod ml ret p meth c Z a0) (P : KPos wd p l e R s m args below meth c Z own n0 h0 ws T h cells slots) {k : Nat} {v : Int64} (hd : decode cod pc = .ok (.lload k, 2)) (hl : Ls[k]? = some (.val (.long v))) {pc' : Nat} (hp : pc + 2 = pc') (k' : KGo p e below K T m pc' Ls (.long v :: st)) : KGo p e below K T m pc Ls (st) := by
  subst hp; exact k'.step fun t q => XS.lload P.here C.1 rfl (hb C.cdE hd) hl q
theorem k_lloadN (C : KCx tbl nm cod ml ret p meth c Z a0) (P : KPos wd p l e R s m args below meth c Z own n0 h0 ws T h cells slots) {k : Fin 4} {v : Int64} (hd : decode cod pc = .ok (.lload_n k, 1)) (hl : Ls[k.val]? = some (.val (.long v))) {pc' : Nat} (hp : pc + 1 = pc') (k' : KGo p e below K T m pc' Ls (.long v :: st)) : KGo p e below K T m pc Ls (st) := by
  subst hp; exact k'.step fun t q => XS.lloadN P.here C.1 rfl (hb C.cdE hd) hl q
theorem k_lstore (C : KCx tbl nm cod ml ret p meth c Z a0) (P : KPos wd p l e R s m args below meth c Z own n0 h0 ws T h cells slots) {k : Nat} {x : Int64} {l' : Array Slot} (hd : decode cod pc = .ok (.lstore k, 2)) (hl : storeLocals Ls k (.long x) = some l') {pc' : Nat} (hp : pc + 2 = pc') (k' : KGo p e below K T m pc' l' (st)) : KGo p e below K T m pc Ls (.long x :: st) := by
  subst hp; exact k'.step fun t q => XS.lstore P.here C.1 rfl (hb C.cdE hd) rfl hl q
theorem k_lstoreN (C : KCx tbl nm cod ml ret p meth c Z a0) (P : KPos wd p l e R s m args below meth c Z own n0 h0 ws T h cells slots) {k : Fin 4} {x : Int64} {l' : Array Slot} (hd : decode cod pc = .ok (.lstore_n k, 1)) (hl : storeLocals Ls k.val (.long x) = some l') {pc' : Nat} (hp : pc + 1 = pc') (k' : KGo p e below K T m pc' l' (st)) : KGo p e below K T m pc Ls (.long x :: st) := by
  subst hp; exact k'.step fun t q => XS.lstoreN P.here C.1 rfl (hb C.cdE hd) rfl hl q
theorem k_aload (C : KCx tbl nm cod ml ret p meth c Z a0) (P : KPos wd p l e R s m args below meth c Z own n0 h0 ws T h cells slots) {k : Nat} {v : Value} (hd : decode cod pc = .ok (.aload k, 2)) (hl : Ls[k]? = some (.val v)) (hv : v.isRef = true) {pc' : Nat} (hp : pc + 2 = pc') (k' : KGo p e below K T m pc' Ls (v :: st)) : KGo p e below K T m pc Ls (st) := by
  subst hp; exact k'.step fun t q => XS.aload P.here C.1 rfl (hb C.cdE hd) hl hv q
theorem k_aloadN (C : KCx tbl nm cod ml ret p meth c Z a0) (P : KPos wd p l e R s m args below meth c Z own n0 h0 ws T h cells slots) {k : Fin 4} {v : Value} (hd : decode cod pc = .ok (.aload_n k, 1)) (hl : Ls[k.val]? = some (.val v)) (hv : v.isRef = true) {pc' : Nat} (hp : pc + 1 = pc') (k' : KGo p e below K T m pc' Ls (v :: st)) : KGo p e below K T m pc Ls (st) := by
  subst hp; exact k'.step fun t q => XS.aloadN P.here C.1 rfl (hb C.cdE hd) hl hv q
theorem k_astore (C : KCx tbl nm cod ml ret p meth c Z a0) (P : KPos wd p l e R s m args below meth c Z own n0 h0 ws T h cells slots) {k : Nat} {x : Value} {l' : Array Slot} (hd : decode cod pc = .ok (.astore k, 2)) (hv : x.isRef = true) (hl : storeLocals Ls k x = some l') {pc' : Nat} (hp : pc + 2 = pc') (k' : KGo p e below K T m pc' l' (st)) : KGo p e below K T m pc Ls (x :: st) := by
  subst hp; exact k'.step fun t q => XS.astore P.here C.1 rfl (hb C.cdE hd) rfl hv hl q
theorem k_astoreN (C : KCx tbl nm cod ml ret p meth c Z a0) (P : KPos wd p l e R s m args below meth c Z own n0 h0 ws T h cells slots) {k : Fin 4} {x : Value} {l' : Array Slot} (hd : decode cod pc = .ok (.astore_n k, 1)) (hv : x.isRef = true) (hl : storeLocals Ls k.val x = some l') {pc' : Nat} (hp : pc + 1 = pc') (k' : KGo p e below K T m pc' l' (st)) : KGo p e below K T m pc Ls (x :: st) := by
  subst hp; exact k'.step fun t q => XS.astoreN P.here C.1 rfl (hb C.cdE hd) rfl hv hl q
theorem k_iconst (C : KCx tbl nm cod ml ret p meth c Z a0) (P : KPos wd p l e R s m args below meth c Z own n0 h0 ws T h cells slots) {i : Int} {z : Int32} (hd : decode cod pc = .ok (.iconst i, 1)) (hz : Int32.ofInt i = z) {pc' : Nat} (hp : pc + 1 = pc') (k' : KGo p e below K T m pc' Ls (.int z :: st)) : KGo p e below K T m pc Ls (st) := by
  subst hp; exact k'.step fun t q => XS.iconst P.here C.1 rfl (hb C.cdE hd) (hz ▸ q)
theorem k_bipush (C : KCx tbl nm cod ml ret p meth c Z a0) (P : KPos wd p l e R s m args below meth c Z own n0 h0 ws T h cells slots) {i : Int} {z : Int32} (hd : decode cod pc = .ok (.bipush i, 2)) (hz : (Int8.ofInt i).toInt32 = z) {pc' : Nat} (hp : pc + 2 = pc') (k' : KGo p e below K T m pc' Ls (.int z :: st)) : KGo p e below K T m pc Ls (st) := by
  subst hp; exact k'.step fun t q => XS.bipush P.here C.1 rfl (hb C.cdE hd) (hz ▸ q)
theorem k_sipush (C : KCx tbl nm cod ml ret p meth c Z a0) (P : KPos wd p l e R s m args below meth c Z own n0 h0 ws T h cells slots) {i : Int} {z : Int32} (hd : decode cod pc = .ok (.sipush i, 3)) (hz : (Int16.ofInt i).toInt32 = z) {pc' : Nat} (hp : pc + 3 = pc') (k' : KGo p e below K T m pc' Ls (.int z :: st)) : KGo p e below K T m pc Ls (st) := by
  subst hp; exact k'.step fun t q => XS.sipush P.here C.1 rfl (hb C.cdE hd) (hz ▸ q)
theorem k_lconst (C : KCx tbl nm cod ml ret p meth c Z a0) (P : KPos wd p l e R s m args below meth c Z own n0 h0 ws T h cells slots) {i : Fin 2} {z : Int64} (hd : decode cod pc = .ok (.lconst i, 1)) (hz : Int64.ofNat i = z) {pc' : Nat} (hp : pc + 1 = pc') (k' : KGo p e below K T m pc' Ls (.long z :: st)) : KGo p e below K T m pc Ls (st) := by
  subst hp; exact k'.step fun t q => XS.lconst P.here C.1 rfl (hb C.cdE hd) (hz ▸ q)
theorem k_aconstNull (C : KCx tbl nm cod ml ret p meth c Z a0) (P : KPos wd p l e R s m args below meth c Z own n0 h0 ws T h cells slots)  (hd : decode cod pc = .ok (.aconst_null, 1))  {pc' : Nat} (hp : pc + 1 = pc') (k' : KGo p e below K T m pc' Ls (.null :: st)) : KGo p e below K T m pc Ls (st) := by
  subst hp; exact k'.step fun t q => XS.aconstNull P.here C.1 rfl (hb C.cdE hd) q
theorem k_iadd (C : KCx tbl nm cod ml ret p meth c Z a0) (P : KPos wd p l e R s m args below meth c Z own n0 h0 ws T h cells slots) {x y : Int32} (hd : decode cod pc = .ok (.iadd, 1))  {pc' : Nat} (hp : pc + 1 = pc') (k' : KGo p e below K T m pc' Ls (.int (x + y) :: st)) : KGo p e below K T m pc Ls (.int y :: .int x :: st) := by
  subst hp; exact k'.step fun t q => XS.iadd P.here C.1 rfl (hb C.cdE hd) rfl q
theorem k_isub (C : KCx tbl nm cod ml ret p meth c Z a0) (P : KPos wd p l e R s m args below meth c Z own n0 h0 ws T h cells slots) {x y : Int32} (hd : decode cod pc = .ok (.isub, 1))  {pc' : Nat} (hp : pc + 1 = pc') (k' : KGo p e below K T m pc' Ls (.int (x - y) :: st)) : KGo p e below K T m pc Ls (.int y :: .int x :: st) := by
  subst hp; exact k'.step fun t q => XS.isub P.here C.1 rfl (hb C.cdE hd) rfl q
theorem k_imul (C : KCx tbl nm cod ml ret p meth c Z a0) (P : KPos wd p l e R s m args below meth c Z own n0 h0 ws T h cells slots) {x y : Int32} (hd : decode cod pc = .ok (.imul, 1))  {pc' : Nat} (hp : pc + 1 = pc') (k' : KGo p e below K T m pc' Ls (.int (x * y) :: st)) : KGo p e below K T m pc Ls (.int y :: .int x :: st) := by
  subst hp; exact k'.step fun t q => XS.imul P.here C.1 rfl (hb C.cdE hd) rfl q
theorem k_iand (C : KCx tbl nm cod ml ret p meth c Z a0) (P : KPos wd p l e R s m args below meth c Z own n0 h0 ws T h cells slots) {x y : Int32} (hd : decode cod pc = .ok (.iand, 1))  {pc' : Nat} (hp : pc + 1 = pc') (k' : KGo p e below K T m pc' Ls (.int (x &&& y) :: st)) : KGo p e below K T m pc Ls (.int y :: .int x :: st) := by
  subst hp; exact k'.step fun t q => XS.iand P.here C.1 rfl (hb C.cdE hd) rfl q
theorem k_ior (C : KCx tbl nm cod ml ret p meth c Z a0) (P : KPos wd p l e R s m args below meth c Z own n0 h0 ws T h cells slots) {x y : Int32} (hd : decode cod pc = .ok (.ior, 1))  {pc' : Nat} (hp : pc + 1 = pc') (k' : KGo p e below K T m pc' Ls (.int (x ||| y) :: st)) : KGo p e below K T m pc Ls (.int y :: .int x :: st) := by
  subst hp; exact k'.step fun t q => XS.ior P.here C.1 rfl (hb C.cdE hd) rfl q
theorem k_ixor (C : KCx tbl nm cod ml ret p meth c Z a0) (P : KPos wd p l e R s m args below meth c Z own n0 h0 ws T h cells slots) {x y : Int32} (hd : decode cod pc = .ok (.ixor, 1))  {pc' : Nat} (hp : pc + 1 = pc') (k' : KGo p e below K T m pc' Ls (.int (x ^^^ y) :: st)) : KGo p e below K T m pc Ls (.int y :: .int x :: st) := by
  subst hp; exact k'.step fun t q => XS.ixor P.here C.1 rfl (hb C.cdE hd) rfl q
theorem k_ishl (C : KCx tbl nm cod ml ret p meth c Z a0) (P : KPos wd p l e R s m args below meth c Z own n0 h0 ws T h cells slots) {x y : Int32} (hd : decode cod pc = .ok (.ishl, 1))  {pc' : Nat} (hp : pc + 1 = pc') (k' : KGo p e below K T m pc' Ls (.int (x <<< (y &&& 31)) :: st)) : KGo p e below K T m pc Ls (.int y :: .int x :: st) := by
  subst hp; exact k'.step fun t q => XS.ishl P.here C.1 rfl (hb C.cdE hd) rfl q
theorem k_ishr (C : KCx tbl nm cod ml ret p meth c Z a0) (P : KPos wd p l e R s m args below meth c Z own n0 h0 ws T h cells slots) {x y : Int32} (hd : decode cod pc = .ok (.ishr, 1))  {pc' : Nat} (hp : pc + 1 = pc') (k' : KGo p e below K T m pc' Ls (.int (x >>> (y &&& 31)) :: st)) : KGo p e below K T m pc Ls (.int y :: .int x :: st) := by
  subst hp; exact k'.step fun t q => XS.ishr P.here C.1 rfl (hb C.cdE hd) rfl q
theorem k_iushr (C : KCx tbl nm cod ml ret p meth c Z a0) (P : KPos wd p l e R s m args below meth c Z own n0 h0 ws T h cells slots) {x y : Int32} (hd : decode cod pc = .ok (.iushr, 1))  {pc' : Nat} (hp : pc + 1 = pc') (k' : KGo p e below K T m pc' Ls (.int (k_ushr x y) :: st)) : KGo p e below K T m pc Ls (.int y :: .int x :: st) := by
  subst hp; exact k'.step fun t q => XS.iushr P.here C.1 rfl (hb C.cdE hd) rfl q
theorem k_ladd (C : KCx tbl nm cod ml ret p meth c Z a0) (P : KPos wd p l e R s m args below meth c Z own n0 h0 ws T h cells slots) {x y : Int64} (hd : decode cod pc = .ok (.ladd, 1))  {pc' : Nat} (hp : pc + 1 = pc') (k' : KGo p e below K T m pc' Ls (.long (x + y) :: st)) : KGo p e below K T m pc Ls (.long y :: .long x :: st) := by
  subst hp; exact k'.step fun t q => XS.ladd P.here C.1 rfl (hb C.cdE hd) rfl q
theorem k_lsub (C : KCx tbl nm cod ml ret p meth c Z a0) (P : KPos wd p l e R s m args below meth c Z own n0 h0 ws T h cells slots) {x y : Int64} (hd : decode cod pc = .ok (.lsub, 1))  {pc' : Nat} (hp : pc + 1 = pc') (k' : KGo p e below K T m pc' Ls (.long (x - y) :: st)) : KGo p e below K T m pc Ls (.long y :: .long x :: st) := by
  subst hp; exact k'.step fun t q => XS.lsub P.here C.1 rfl (hb C.cdE hd) rfl q
theorem k_lmul (C : KCx tbl nm cod ml ret p meth c Z a0) (P : KPos wd p l e R s m args below meth c Z own n0 h0 ws T h cells slots) {x y : Int64} (hd : decode cod pc = .ok (.lmul, 1))  {pc' : Nat} (hp : pc + 1 = pc') (k' : KGo p e below K T m pc' Ls (.long (x * y) :: st)) : KGo p e below K T m pc Ls (.long y :: .long x :: st) := by
  subst hp; exact k'.step fun t q => XS.lmul P.here C.1 rfl (hb C.cdE hd) rfl q
theorem k_land (C : KCx tbl nm cod ml ret p meth c Z a0) (P : KPos wd p l e R s m args below meth c Z own n0 h0 ws T h cells slots) {x y : Int64} (hd : decode cod pc = .ok (.land, 1))  {pc' : Nat} (hp : pc + 1 = pc') (k' : KGo p e below K T m pc' Ls (.long (x &&& y) :: st)) : KGo p e below K T m pc Ls (.long y :: .long x :: st) := by
  subst hp; exact k'.step fun t q => XS.land P.here C.1 rfl (hb C.cdE hd) rfl q
theorem k_lor (C : KCx tbl nm cod ml ret p meth c Z a0) (P : KPos wd p l e R s m args below meth c Z own n0 h0 ws T h cells slots) {x y : Int64} (hd : decode cod pc = .ok (.lor, 1))  {pc' : Nat} (hp : pc + 1 = pc') (k' : KGo p e below K T m pc' Ls (.long (x ||| y) :: st)) : KGo p e below K T m pc Ls (.long y :: .long x :: st) := by
  subst hp; exact k'.step fun t q => XS.lor P.here C.1 rfl (hb C.cdE hd) rfl q
theorem k_lxor (C : KCx tbl nm cod ml ret p meth c Z a0) (P : KPos wd p l e R s m args below meth c Z own n0 h0 ws T h cells slots) {x y : Int64} (hd : decode cod pc = .ok (.lxor, 1))  {pc' : Nat} (hp : pc + 1 = pc') (k' : KGo p e below K T m pc' Ls (.long (x ^^^ y) :: st)) : KGo p e below K T m pc Ls (.long y :: .long x :: st) := by
  subst hp; exact k'.step fun t q => XS.lxor P.here C.1 rfl (hb C.cdE hd) rfl q
theorem k_lshl (C : KCx tbl nm cod ml ret p meth c Z a0) (P : KPos wd p l e R s m args below meth c Z own n0 h0 ws T h cells slots) {x : Int64} {y : Int32} (hd : decode cod pc = .ok (.lshl, 1))  {pc' : Nat} (hp : pc + 1 = pc') (k' : KGo p e below K T m pc' Ls (.long (x <<< (y &&& 63).toInt64) :: st)) : KGo p e below K T m pc Ls (.int y :: .long x :: st) := by
  subst hp; exact k'.step fun t q => XS.lshl P.here C.1 rfl (hb C.cdE hd) rfl q
theorem k_lshr (C : KCx tbl nm cod ml ret p meth c Z a0) (P : KPos wd p l e R s m args below meth c Z own n0 h0 ws T h cells slots) {x : Int64} {y : Int32} (hd : decode cod pc = .ok (.lshr, 1))  {pc' : Nat} (hp : pc + 1 = pc') (k' : KGo p e below K T m pc' Ls (.long (x >>> (y &&& 63).toInt64) :: st)) : KGo p e below K T m pc Ls (.int y :: .long x :: st) := by
  subst hp; exact k'.step fun t q => XS.lshr P.here C.1 rfl (hb C.cdE hd) rfl q
theorem k_lushr (C : KCx tbl nm cod ml ret p meth c Z a0) (P : KPos wd p l e R s m args below meth c Z own n0 h0 ws T h cells slots) {x : Int64} {y : Int32} (hd : decode cod pc = .ok (.lushr, 1))  {pc' : Nat} (hp : pc + 1 = pc') (k' : KGo p e below K T m pc' Ls (.long (k_ushrL x y) :: st)) : KGo p e below K T m pc Ls (.int y :: .long x :: st) := by
  subst hp; exact k'.step fun t q => XS.lushr P.here C.1 rfl (hb C.cdE hd) rfl q
theorem k_lcmp (C : KCx tbl nm cod ml ret p meth c Z a0) (P : KPos wd p l e R s m args below meth c Z own n0 h0 ws T h cells slots) {x y : Int64} (hd : decode cod pc = .ok (.lcmp, 1))  {pc' : Nat} (hp : pc + 1 = pc') (k' : KGo p e below K T m pc' Ls (.int (k_cmpL x y) :: st)) : KGo p e below K T m pc Ls (.long y :: .long x :: st) := by
  subst hp; exact k'.step fun t q => XS.lcmp P.here C.1 rfl (hb C.cdE hd) rfl q
theorem k_i2l (C : KCx tbl nm cod ml ret p meth c Z a0) (P : KPos wd p l e R s m args below meth c Z own n0 h0 ws T h cells slots) {x : Int32} (hd : decode cod pc = .ok (.i2l, 1))  {pc' : Nat} (hp : pc + 1 = pc') (k' : KGo p e below K T m pc' Ls (.long (x.toInt64) :: st)) : KGo p e below K T m pc Ls (.int x :: st) := by
  subst hp; exact k'.step fun t q => XS.i2l P.here C.1 rfl (hb C.cdE hd) rfl q
theorem k_l2i (C : KCx tbl nm cod ml ret p meth c Z a0) (P : KPos wd p l e R s m args below meth c Z own n0 h0 ws T h cells slots) {x : Int64} (hd : decode cod pc = .ok (.l2i, 1))  {pc' : Nat} (hp : pc + 1 = pc') (k' : KGo p e below K T m pc' Ls (.int (x.toInt32) :: st)) : KGo p e below K T m pc Ls (.long x :: st) := by
  subst hp; exact k'.step fun t q => XS.l2i P.here C.1 rfl (hb C.cdE hd) rfl q
theorem k_i2b (C : KCx tbl nm cod ml ret p meth c Z a0) (P : KPos wd p l e R s m args below meth c Z own n0 h0 ws T h cells slots) {x : Int32} (hd : decode cod pc = .ok (.i2b, 1))  {pc' : Nat} (hp : pc + 1 = pc') (k' : KGo p e below K T m pc' Ls (.int (x.toInt8.toInt32) :: st)) : KGo p e below K T m pc Ls (.int x :: st) := by
  subst hp; exact k'.step fun t q => XS.i2b P.here C.1 rfl (hb C.cdE hd) rfl q
theorem k_i2c (C : KCx tbl nm cod ml ret p meth c Z a0) (P : KPos wd p l e R s m args below meth c Z own n0 h0 ws T h cells slots) {x : Int32} (hd : decode cod pc = .ok (.i2c, 1))  {pc' : Nat} (hp : pc + 1 = pc') (k' : KGo p e below K T m pc' Ls (.int (x.toUInt32.toUInt16.toUInt32.toInt32) :: st)) : KGo p e below K T m pc Ls (.int x :: st) := by
  subst hp; exact k'.step fun t q => XS.i2c P.here C.1 rfl (hb C.cdE hd) rfl q
theorem k_i2s (C : KCx tbl nm cod ml ret p meth c Z a0) (P : KPos wd p l e R s m args below meth c Z own n0 h0 ws T h cells slots) {x : Int32} (hd : decode cod pc = .ok (.i2s, 1))  {pc' : Nat} (hp : pc + 1 = pc') (k' : KGo p e below K T m pc' Ls (.int (x.toInt16.toInt32) :: st)) : KGo p e below K T m pc Ls (.int x :: st) := by
  subst hp; exact k'.step fun t q => XS.i2s P.here C.1 rfl (hb C.cdE hd) rfl q
theorem k_ineg (C : KCx tbl nm cod ml ret p meth c Z a0) (P : KPos wd p l e R s m args below meth c Z own n0 h0 ws T h cells slots) {x : Int32} (hd : decode cod pc = .ok (.ineg, 1))  {pc' : Nat} (hp : pc + 1 = pc') (k' : KGo p e below K T m pc' Ls (.int (-x) :: st)) : KGo p e below K T m pc Ls (.int x :: st) := by
  subst hp; exact k'.step fun t q => XS.ineg P.here C.1 rfl (hb C.cdE hd) rfl q
theorem k_lneg (C : KCx tbl nm cod ml ret p meth c Z a0) (P : KPos wd p l e R s m args below meth c Z own n0 h0 ws T h cells slots) {x : Int64} (hd : decode cod pc = .ok (.lneg, 1))  {pc' : Nat} (hp : pc + 1 = pc') (k' : KGo p e below K T m pc' Ls (.long (-x) :: st)) : KGo p e below K T m pc Ls (.long x :: st) := by
  subst hp; exact k'.step fun t q => XS.lneg P.here C.1 rfl (hb C.cdE hd) rfl q
theorem k_irem (C : KCx tbl nm cod ml ret p meth c Z a0) (P : KPos wd p l e R s m args below meth c Z own n0 h0 ws T h cells slots) {x y : Int32} (hd : decode cod pc = .ok (.irem, 1)) (hy : y ≠ 0) {pc' : Nat} (hp : pc + 1 = pc') (k' : KGo p e below K T m pc' Ls (.int (x % y) :: st)) : KGo p e below K T m pc Ls (.int y :: .int x :: st) := by
  subst hp; exact k'.step fun t q => XS.irem P.here C.1 rfl (hb C.cdE hd) rfl hy (by rw [irem_eq_mod]; exact q)
theorem k_idiv (C : KCx tbl nm cod ml ret p meth c Z a0) (P : KPos wd p l e R s m args below meth c Z own n0 h0 ws T h cells slots) {x y : Int32} (hd : decode cod pc = .ok (.idiv, 1)) (hy : y ≠ 0) {pc' : Nat} (hp : pc + 1 = pc') (k' : KGo p e below K T m pc' Ls (.int (x / y) :: st)) : KGo p e below K T m pc Ls (.int y :: .int x :: st) := by
  subst hp; exact k'.step fun t q => XS.idiv P.here C.1 rfl (hb C.cdE hd) rfl hy q
theorem k_iinc (C : KCx tbl nm cod ml ret p meth c Z a0) (P : KPos wd p l e R s m args below meth c Z own n0 h0 ws T h cells slots) {k : Nat} {cst : Int} {x z : Int32} {l' : Array Slot} (hd : decode cod pc = .ok (.iinc k cst, 3)) (hl : Ls[k]? = some (.val (.int x))) (hz : x + Int32.ofInt cst = z) (hl' : storeLocals Ls k (.int z) = some l') {pc' : Nat} (hp : pc + 3 = pc') (k' : KGo p e below K T m pc' l' (st)) : KGo p e below K T m pc Ls (st) := by
  subst hp; exact k'.step fun t q => XS.iinc P.here C.1 rfl (hb C.cdE hd) hl (hz ▸ hl') q
theorem k_dup (C : KCx tbl nm cod ml ret p meth c Z a0) (P : KPos wd p l e R s m args below meth c Z own n0 h0 ws T h cells slots) {x : Value} (hd : decode cod pc = .ok (.dup, 1)) (hc : x.category = 1) {pc' : Nat} (hp : pc + 1 = pc') (k' : KGo p e below K T m pc' Ls (x :: x :: st)) : KGo p e below K T m pc Ls (x :: st) := by
  subst hp; exact k'.step fun t q => XS.dup P.here C.1 rfl (hb C.cdE hd) rfl hc q
theorem k_pop (C : KCx tbl nm cod ml ret p meth c Z a0) (P : KPos wd p l e R s m args below meth c Z own n0 h0 ws T h cells slots) {x : Value} (hd : decode cod pc = .ok (.pop, 1)) (hc : x.category = 1) {pc' : Nat} (hp : pc + 1 = pc') (k' : KGo p e below K T m pc' Ls (st)) : KGo p e below K T m pc Ls (x :: st) := by
  subst hp; exact k'.step fun t q => XS.pop P.here C.1 rfl (hb C.cdE hd) rfl hc q
theorem k_dupX1 (C : KCx tbl nm cod ml ret p meth c Z a0) (P : KPos wd p l e R s m args below meth c Z own n0 h0 ws T h cells slots) {x y : Value} (hd : decode cod pc = .ok (.dup_x1, 1)) (hc : x.category = 1) (hc' : y.category = 1) {pc' : Nat} (hp : pc + 1 = pc') (k' : KGo p e below K T m pc' Ls (x :: y :: x :: st)) : KGo p e below K T m pc Ls (x :: y :: st) := by
  subst hp; exact k'.step fun t q => XS.dupX1 P.here C.1 rfl (hb C.cdE hd) rfl hc hc' q
theorem k_dup2 (C : KCx tbl nm cod ml ret p meth c Z a0) (P : KPos wd p l e R s m args below meth c Z own n0 h0 ws T h cells slots) {x y : Value} (hd : decode cod pc = .ok (.dup2, 1)) (hc : x.category = 1) (hc' : y.category = 1) {pc' : Nat} (hp : pc + 1 = pc') (k' : KGo p e below K T m pc' Ls (x :: y :: x :: y :: st)) : KGo p e below K T m pc Ls (x :: y :: st) := by
  subst hp; exact k'.step fun t q => XT.dup2 P.here C.1 rfl (hb C.cdE hd) rfl hc hc' q
theorem k_dload (C : KCx tbl nm cod ml ret p meth c Z a0) (P : KPos wd p l e R s m args below meth c Z own n0 h0 ws T h cells slots) {k : Nat} {v : UInt64} (hd : decode cod pc = .ok (.dload k, 2)) (hl : Ls[k]? = some (.val (.double v))) {pc' : Nat} (hp : pc + 2 = pc') (k' : KGo p e below K T m pc' Ls (.double v :: st)) : KGo p e below K T m pc Ls (st) := by
  subst hp; exact k'.step fun t q => XS.dload P.here C.1 rfl (hb C.cdE hd) hl q
theorem k_dloadN (C : KCx tbl nm cod ml ret p meth c Z a0) (P : KPos wd p l e R s m args below meth c Z own n0 h0 ws T h cells slots) {k : Fin 4} {v : UInt64} (hd : decode cod pc = .ok (.dload_n k, 1)) (hl : Ls[k.val]? = some (.val (.double v))) {pc' : Nat} (hp : pc + 1 = pc') (k' : KGo p e below K T m pc' Ls (.double v :: st)) : KGo p e below K T m pc Ls (st) := by
  subst hp; exact k'.step fun t q => XS.dloadN P.here C.1 rfl (hb C.cdE hd) hl q
theorem k_dstore (C : KCx tbl nm cod ml ret p meth c Z a0) (P : KPos wd p l e R s m args below meth c Z own n0 h0 ws T h cells slots) {k : Nat} {x : UInt64} {l' : Array Slot} (hd : decode cod pc = .ok (.dstore k, 2)) (hl : storeLocals Ls k (.double x) = some l') {pc' : Nat} (hp : pc + 2 = pc') (k' : KGo p e below K T m pc' l' (st)) : KGo p e below K T m pc Ls (.double x :: st) := by
  subst hp; exact k'.step fun t q => XS.dstore P.here C.1 rfl (hb C.cdE hd) rfl hl q
theorem k_dstoreN (C : KCx tbl nm cod ml ret p meth c Z a0) (P : KPos wd p l e R s m args below meth c Z own n0 h0 ws T h cells slots) {k : Fin 4} {x : UInt64} {l' : Array Slot} (hd : decode cod pc = .ok (.dstore_n k, 1)) (hl : storeLocals Ls k.val (.double x) = some l') {pc' : Nat} (hp : pc + 1 = pc') (k' : KGo p e below K T m pc' l' (st)) : KGo p e below K T m pc Ls (.double x :: st) := by
  subst hp; exact k'.step fun t q => XS.dstoreN P.here C.1 rfl (hb C.cdE hd) rfl hl q
theorem k_dconst0 (C : KCx tbl nm cod ml ret p meth c Z a0) (P : KPos wd p l e R s m args below meth c Z own n0 h0 ws T h cells slots) {z : UInt64} (hd : decode cod pc = .ok (.dconst 0, 1)) (hz : FP.dconst0 = z) {pc' : Nat} (hp : pc + 1 = pc') (k' : KGo p e below K T m pc' Ls (.double z :: st)) : KGo p e below K T m pc Ls (st) := by
  subst hp; exact k'.step fun t q => XS.dconst0 P.here C.1 rfl (hb C.cdE hd) hz q
theorem k_dconst1 (C : KCx tbl nm cod ml ret p meth c Z a0) (P : KPos wd p l e R s m args below meth c Z own n0 h0 ws T h cells slots) {z : UInt64} (hd : decode cod pc = .ok (.dconst 1, 1)) (hz : FP.dconst1 = z) {pc' : Nat} (hp : pc + 1 = pc') (k' : KGo p e below K T m pc' Ls (.double z :: st)) : KGo p e below K T m pc Ls (st) := by
  subst hp; exact k'.step fun t q => XS.dconst1 P.here C.1 rfl (hb C.cdE hd) hz q
theorem k_i2d (C : KCx tbl nm cod ml ret p meth c Z a0) (P : KPos wd p l e R s m args below meth c Z own n0 h0 ws T h cells slots) {x : Int32} (hd : decode cod pc = .ok (.i2d, 1))  {pc' : Nat} (hp : pc + 1 = pc') (k' : KGo p e below K T m pc' Ls (.double (FP.i2d x) :: st)) : KGo p e below K T m pc Ls (.int x :: st) := by
  subst hp; exact k'.step fun t q => XS.i2dS P.here C.1 rfl (hb C.cdE hd) rfl rfl q
theorem k_l2d (C : KCx tbl nm cod ml ret p meth c Z a0) (P : KPos wd p l e R s m args below meth c Z own n0 h0 ws T h cells slots) {x : Int64} (hd : decode cod pc = .ok (.l2d, 1))  {pc' : Nat} (hp : pc + 1 = pc') (k' : KGo p e below K T m pc' Ls (.double (FP.l2d x) :: st)) : KGo p e below K T m pc Ls (.long x :: st) := by
  subst hp; exact k'.step fun t q => XS.l2dS P.here C.1 rfl (hb C.cdE hd) rfl rfl q
theorem k_dneg (C : KCx tbl nm cod ml ret p meth c Z a0) (P : KPos wd p l e R s m args below meth c Z own n0 h0 ws T h cells slots) {x : UInt64} (hd : decode cod pc = .ok (.dneg, 1))  {pc' : Nat} (hp : pc + 1 = pc') (k' : KGo p e below K T m pc' Ls (.double (FP.dneg x) :: st)) : KGo p e below K T m pc Ls (.double x :: st) := by
  subst hp; exact k'.step fun t q => XS.dnegS P.here C.1 rfl (hb C.cdE hd) rfl rfl q
theorem k_dcmp (C : KCx tbl nm cod ml ret p meth c Z a0) (P : KPos wd p l e R s m args below meth c Z own n0 h0 ws T h cells slots) {o : CmpOp} {x y : UInt64} {z : Int32} (hd : decode cod pc = .ok (.dcmp o, 1)) (hz : cmpValue (FP.dcmp x y) o = z) {pc' : Nat} (hp : pc + 1 = pc') (k' : KGo p e below K T m pc' Ls (.int z :: st)) : KGo p e below K T m pc Ls (.double y :: .double x :: st) := by
  subst hp; exact k'.step fun t q => XS.dcmpS P.here C.1 rfl (hb C.cdE hd) rfl hz q
theorem k_dadd (C : KCx tbl nm cod ml ret p meth c Z a0) (P : KPos wd p l e R s m args below meth c Z own n0 h0 ws T h cells slots) {x y z : UInt64} (hd : decode cod pc = .ok (.dadd, 1)) (hn : Jvm.Free.Fl.NoNaN64 (FP.dadd x y)) (hz : FP.dadd x y = z) {pc' : Nat} (hp : pc + 1 = pc') (k' : KGo p e below K T m pc' Ls (.double z :: st)) : KGo p e below K T m pc Ls (.double y :: .double x :: st) := by
  subst hp; exact k'.step fun t q => XS.daddS P.here C.1 rfl (hb C.cdE hd) rfl hn hz q
theorem k_dsub (C : KCx tbl nm cod ml ret p meth c Z a0) (P : KPos wd p l e R s m args below meth c Z own n0 h0 ws T h cells slots) {x y z : UInt64} (hd : decode cod pc = .ok (.dsub, 1)) (hn : Jvm.Free.Fl.NoNaN64 (FP.dsub x y)) (hz : FP.dsub x y = z) {pc' : Nat} (hp : pc + 1 = pc') (k' : KGo p e below K T m pc' Ls (.double z :: st)) : KGo p e below K T m pc Ls (.double y :: .double x :: st) := by
  subst hp; exact k'.step fun t q => XS.dsubS P.here C.1 rfl (hb C.cdE hd) rfl hn hz q
theorem k_dmul (C : KCx tbl nm cod ml ret p meth c Z a0) (P : KPos wd p l e R s m args below meth c Z own n0 h0 ws T h cells slots) {x y z : UInt64} (hd : decode cod pc = .ok (.dmul, 1)) (hn : Jvm.Free.Fl.NoNaN64 (FP.dmul x y)) (hz : FP.dmul x y = z) {pc' : Nat} (hp : pc + 1 = pc') (k' : KGo p e below K T m pc' Ls (.double z :: st)) : KGo p e below K T m pc Ls (.double y :: .double x :: st) := by
  subst hp; exact k'.step fun t q => XS.dmulS P.here C.1 rfl (hb C.cdE hd) rfl hn hz q
theorem k_ddiv (C : KCx tbl nm cod ml ret p meth c Z a0) (P : KPos wd p l e R s m args below meth c Z own n0 h0 ws T h cells slots) {x y z : UInt64} (hd : decode cod pc = .ok (.ddiv, 1)) (hn : Jvm.Free.Fl.NoNaN64 (FP.ddiv x y)) (hz : FP.ddiv x y = z) {pc' : Nat} (hp : pc + 1 = pc') (k' : KGo p e below K T m pc' Ls (.double z :: st)) : KGo p e below K T m pc Ls (.double y :: .double x :: st) := by
  subst hp; exact k'.step fun t q => XS.ddivS P.here C.1 rfl (hb C.cdE hd) rfl hn hz q
/-! ### objects and arrays -/
def KOb (Z : State) (h : Heap) (a : Addr) (Cn : String) (lay : List (String × String × String)) (vs : List Value) : Prop :=
  Exa Z h a Cn ∧ lay.length = vs.length ∧ ∀ (i : Nat) (O n d : String) (v : Value), lay[i]? = some (O, n, d) → vs[i]? = some v → Fld Z h a O n d v
def KLay (Z : State) (a0 : Array Value) (Cn : String) (lay : List (String × String × String)) : Prop :=
  (∀ x ∈ lay, Laid Z a0 Cn x.1 x.2.1 x.2.2 ∧ (parseFieldDescriptor x.2.2).isSome = true) ∧ (lay.map (·.2.1)).Nodup
def KVA (Z : State) (h : Heap) (a : Addr) (k : ClassId) (ty : FieldType) (N : Nat) (f : Nat → Value) : Prop :=
  ∃ cl : Cell, Arr Z h a cl ty ∧ cl.cls = k ∧ cl.slots.size = N ∧ N < 2 ^ 31 ∧ ∀ j, j < N → cl.slots[j]? = some (f j)
section Facts
variable {Cn O n d : String} {lay : List (String × String × String)} {vs : List Value} {v : Value} {sl : Nat} {k : ClassId} {ty : FieldType} {N : Nat} {f : Nat → Value} {ws' : List Addr}
theorem KOb.exa (F : KOb Z h a Cn lay vs) : Exa Z h a Cn := F.1
theorem KOb.lt (F : KOb Z h a Cn lay vs) : a < h.size := F.1.lt
theorem KOb.fld (F : KOb Z h a Cn lay vs) (i : Nat) (q : lay[i]? = some (O, n, d)) (r : vs[i]? = some v) : Fld Z h a O n d v := F.2.2 i O n d v q r
theorem KOb.ext (F : KOb Z h a Cn lay vs) (E : Ext h h') : KOb Z h' a Cn lay vs := ⟨F.1.ext E, F.2.1, fun i O n d v q r => (F.2.2 i O n d v q r).ext E⟩
theorem KOb.keep (F : KOb Z h a Cn lay vs) (E : Keep h h' ws') (q : a ∉ ws') : KOb Z h' a Cn lay vs := ⟨F.1.keep E, F.2.1, fun i O n d v u r => (F.2.2 i O n d v u r).keep E q⟩
theorem KOb.other (F : KOb Z h a Cn lay vs) (W : Wr h h' b sl v) (q : a ≠ b) : KOb Z h' a Cn lay vs := ⟨F.1.wr W, F.2.1, fun i O n d v u r => (F.2.2 i O n d v u r).other W (Or.inl q)⟩
theorem KOb.put (F : KOb Z h a Cn lay vs) (L : KLay Z a0 Cn lay) (i : Nat) (q : lay[i]? = some (O, n, d)) (W : Wr h h' a (Jvm.RoadKit.slotOf Z O n d) v) {vs' : List Value} (hv : vs.set i v = vs') : KOb Z h' a Cn lay vs' := by
  subst hv
  refine ⟨F.1.wr W, by rw [List.length_set]; exact F.2.1, fun j O' n' d' v' u r => ?_⟩
  by_cases e : i = j
  · subst e
    cases q.symm.trans u
    have hi : i < vs.length := by rw [← F.2.1]; exact (List.getElem?_eq_some_iff.mp q).1
    rw [List.getElem?_set_self hi] at r
    cases r
    exact (F.2.2 i O n d _ q (List.getElem?_eq_getElem hi)).same W
  · rw [List.getElem?_set_ne e] at r
    obtain ⟨l1, t1⟩ := L.1 _ (List.mem_of_getElem? u)
    obtain ⟨l2, t2⟩ := L.1 _ (List.mem_of_getElem? q)
    obtain ⟨t, ht⟩ := Option.isSome_iff_exists.mp t1
    obtain ⟨t', ht'⟩ := Option.isSome_iff_exists.mp t2
    refine (F.2.2 j O' n' d' v' u r).other W (Or.inr (slot_ne l1 l2 (fun en => ?_) ht ht'))
    have m1 : (lay.map (·.2.1))[j]? = some n' := by rw [List.getElem?_map, u]; rfl
    have m2 : (lay.map (·.2.1))[i]? = some n' := by rw [List.getElem?_map, q]; exact congrArg some en.symm
    exact e (((List.getElem?_inj (List.getElem?_eq_some_iff.mp m2).1 L.2).mp (m2.trans m1.symm)))
theorem KOb.new (E : Exa Z h a Cn) (D : ∀ {O nm d : String} {ty : FieldType}, Laid Z a0 Cn O nm d → parseFieldDescriptor d = some ty → Fld Z h a O nm d (defaultValue ty)) (L : KLay Z a0 Cn lay) (hv : (lay.map fun x => (parseFieldDescriptor x.2.2).map defaultValue) = vs.map some) : KOb Z h a Cn lay vs := by
  have hl : lay.length = vs.length := by have := congrArg List.length hv; simpa using this
  refine ⟨E, hl, fun i O n d v q r => ?_⟩
  obtain ⟨l1, t1⟩ := L.1 _ (List.mem_of_getElem? q)
  obtain ⟨t, ht⟩ := Option.isSome_iff_exists.mp t1
  have e1 : (lay.map fun x => (parseFieldDescriptor x.2.2).map defaultValue)[i]? = some (some (defaultValue t)) := by rw [List.getElem?_map, q]; show some ((parseFieldDescriptor d).map defaultValue) = _; rw [show parseFieldDescriptor d = some t from ht]; rfl
  rw [hv, List.getElem?_map, r] at e1
  cases e1
  exact D l1 ht
theorem KOb.one (E : Exa Z h a Cn) (F : Fld Z h a O n d v) : KOb Z h a Cn [(O, n, d)] [v] := ⟨E, rfl, fun i O' n' d' v' q r => by
  match i, q, r with
  | 0, q, r => cases q; cases r; exact F⟩
theorem KOb.two {O2 n2 d2 : String} {v2 : Value} (E : Exa Z h a Cn) (F : Fld Z h a O n d v) (F2 : Fld Z h a O2 n2 d2 v2) : KOb Z h a Cn [(O, n, d), (O2, n2, d2)] [v, v2] := ⟨E, rfl, fun i O' n' d' v' q r => by
  match i, q, r with
  | 0, q, r => cases q; cases r; exact F
  | 1, q, r => cases q; cases r; exact F2⟩
theorem KVA.lt (F : KVA Z h a k ty N f) : a < h.size := by obtain ⟨c, A, -⟩ := F; exact A.lt
theorem KVA.ext (F : KVA Z h a k ty N f) (E : Ext h h') : KVA Z h' a k ty N f := by obtain ⟨c, A, r⟩ := F; exact ⟨c, A.ext E, r⟩
theorem KVA.keep (F : KVA Z h a k ty N f) (E : Keep h h' ws') (q : a ∉ ws') : KVA Z h' a k ty N f := by obtain ⟨c, A, r⟩ := F; exact ⟨c, ⟨E.2.1 a c A.1 q, A.2⟩, r⟩
theorem KVA.other (F : KVA Z h a k ty N f) (W : Wr h h' b sl v) (q : a ≠ b) : KVA Z h' a k ty N f := by obtain ⟨c, A, r⟩ := F; exact ⟨c, A.other W q, r⟩
theorem KVA.congr (F : KVA Z h a k ty N f) {g : Nat → Value} (q : ∀ j, j < N → f j = g j) : KVA Z h a k ty N g := by obtain ⟨c, A, r1, r2, r3, r4⟩ := F; exact ⟨c, A, r1, r2, r3, fun j hj => by rw [← q j hj]; exact r4 j hj⟩
theorem KVA.set (F : KVA Z h a k ty N f) (W : Wr h h' a sl v) {g : Nat → Value} (q : ∀ j, j < N → (if j = sl then v else f j) = g j) : KVA Z h' a k ty N g := by
  obtain ⟨c, A, r1, r2, r3, r4⟩ := F
  refine ⟨c.setSlot sl v, A.same W, r1, by rw [sz_set]; exact r2, r3, fun j hj => ?_⟩
  rw [← q j hj]
  by_cases e : j = sl
  · subst e; rw [if_pos rfl]; simp [Cell.setSlot, r2, hj]
  · rw [if_neg e]; show (c.slots.setIfInBounds sl v)[j]? = _; rw [Array.getElem?_setIfInBounds_ne (Ne.symm e)]; exact r4 j hj
theorem KVA.new {z : Int32} (A : Arr Z h a (newA k ty z) ty) (q : z.toInt = (N : Int)) : KVA Z h a k ty N (fun _ => defaultValue ty) := by
  have e : z.toNatClampNeg = N := by simp only [Int32.toNatClampNeg]; omega
  have := Int32.toInt_lt z
  exact ⟨_, A, rfl, (sz_new _ _ _).trans e, by omega, fun j hj => by simp [newA, e, hj]⟩
theorem KVA.ne_ob {kk : Nat} (F : KVA Z h a k ty N f) (G : Exa Z h b Cn) (wi : (Cond.instantiable Cn kk).before a0 Z = true) : a ≠ b := by obtain ⟨c, A, -⟩ := F; exact (ne_arr G wi A).symm
theorem KVA.start {cl : Cell} (A : Arr Z h a cl ty) (hs : cl.slots.size = N) (hN : N < 2 ^ 31) (H : ∀ j, j < N → cl.slots[j]? = some (f j)) : KVA Z h a cl.cls ty N f := ⟨cl, A, rfl, hs, hN, H⟩
theorem k_cat_ref {v : Value} (hv : v.isRef = true) : v.category = 1 := by rcases ref_cases hv with rfl | ⟨_, rfl⟩ <;> rfl
theorem k_fits_ref {v : Value} (ht : ty.isReference = true) (hv : v.isRef = true) : fits ty v = true := by rcases ref_cases hv with rfl | ⟨_, rfl⟩ <;> cases ty <;> first | rfl | (cases ht; done)
theorem k_ext_of_keep (E : Keep h h' []) : Ext h h' := ⟨E.1, fun x c q => E.2.1 x c q nin0⟩
theorem k_idx {j : Int32} {J : Nat} (hj : j.toInt = (J : Int)) {S : Nat} (hJ : J < S) : ¬ (j < 0 ∨ S ≤ j.toNatClampNeg) ∧ j.toNatClampNeg = J := by
  have e : j.toNatClampNeg = J := by simp only [Int32.toNatClampNeg]; omega
  refine ⟨?_, e⟩
  rw [e, Int32.lt_iff_toInt_lt]
  have : (0 : Int32).toInt = 0 := rfl
  omega
end Facts
/-! ### steps on the heap -/
theorem k_getf {R0 O n d Cn : String} {index : Nat} {lay : List (String × String × String)} {vs : List Value} {v : Value} (C : KCx tbl nm cod ml ret p meth c Z a0) (P : KPos wd p l e R s m args below meth c Z own n0 h0 ws T h cells slots) (w : (Jvm.Cond.fieldLink own index R0 n d).before a0 Z = true) (via : Via Z R0 O n d) (F : KOb Z h a Cn lay vs) (i : Nat) (q : lay[i]? = some (O, n, d)) (r : vs[i]? = some v)
    (hd : decode cod pc = .ok (.getfield index, 3)) {pc' : Nat} (hp : pc + 3 = pc') (k' : ∀ T', KPos wd p l e R s m args below meth c Z own n0 h0 ws T' h cells slots → KGo p e below K T' m pc' Ls (v :: st)) : KGo p e below K T m pc Ls (.ref a :: st) := by
  subst hp
  obtain ⟨s', L, X, B, hZ, hown, eT, r1⟩ := P
  obtain ⟨T', X', e', stp⟩ := getF X C.1 hZ hown (host := "") (Or.inl w) via eT (F.fld i q r) (g := mkF m pc Ls (.ref a :: st)) rfl rfl (hb C.cdE hd)
  exact (k' T' ⟨s', L, X', B, hZ, hown, e', r1⟩).step stp
theorem k_putf {R0 O n d Cn : String} {index kk : Nat} {lay : List (String × String × String)} {vs : List Value} {v v' : Value} {ty : FieldType} (C : KCx tbl nm cod ml ret p meth c Z a0) (P : KPos wd p l e R s m args below meth c Z own n0 h0 ws T h cells slots) (w : (Jvm.Cond.fieldLink own index R0 n d).before a0 Z = true) (via : Via Z R0 O n d) (F : KOb Z h a Cn lay vs) (i : Nat) (q : lay[i]? = some (O, n, d))
    (L : (Jvm.Cond.lays Cn O n d).before a0 Z = true ∨ ((Jvm.Cond.laysFinal Cn O n d).before a0 Z = true ∧ own = O ∧ nm = "<init>")) (wi : (Jvm.Cond.instantiable Cn kk).before a0 Z = true) (hty : parseFieldDescriptor d = some ty) (hn : narrow ty v = v') (hf : fits ty v' = true)
    (hd : decode cod pc = .ok (.putfield index, 3)) (ha : n0 ≤ a) (hk : a ∈ ws ∨ h0.size ≤ a) {pc' : Nat} (hp : pc + 3 = pc') (k' : ∀ T' h', KPos wd p l e R s m args below meth c Z own n0 h0 ws T' h' cells slots → Wr h h' a (Jvm.RoadKit.slotOf Z O n d) v' → KGo p e below K T' m pc' Ls st) : KGo p e below K T m pc Ls (v :: .ref a :: st) := by
  subst hp
  obtain ⟨s', Lo, X, B, hZ, hown, eT, r1, r2, r3⟩ := P
  have hi : i < vs.length := by rw [← F.2.1]; exact (List.getElem?_eq_some_iff.mp q).1
  obtain ⟨T', h', X', e', W, stp⟩ := putFN X C.1 hZ hown w via eT (F.fld i q (List.getElem?_eq_getElem hi)) F.1 (L.imp id fun z => ⟨z.1, z.2.1, C.nmE.trans z.2.2⟩) wi hty hn hf (g := mkF m pc Ls (v :: .ref a :: st)) rfl rfl (hb C.cdE hd)
  exact (k' T' h' ⟨s', _, X', B.mono (Nat.le_of_eq W.size.symm), hZ, hown, e', W.size ▸ r1, Fr.snoc X' r2 ha, r3.wr W hk⟩ W).step stp
theorem k_gets {R0 O n d : String} {index : Nat} {v : Value} (C : KCx tbl nm cod ml ret p meth c Z a0) (P : KPos wd p l e R s m args below meth c Z own n0 h0 ws T h cells slots) (w : (Jvm.Cond.fieldLink own index R0 n d).before a0 Z = true) (via : Via Z R0 O n d) (F : Sta Z h O n d v) (hd : decode cod pc = .ok (.getstatic index, 3)) {pc' : Nat} (hp : pc + 3 = pc')
    (k' : ∀ T', KPos wd p l e R s m args below meth c Z own n0 h0 ws T' h cells slots → KGo p e below K T' m pc' Ls (v :: st)) : KGo p e below K T m pc Ls st := by
  subst hp
  obtain ⟨s', L, X, B, hZ, hown, eT, r1⟩ := P
  obtain ⟨T', X', e', stp⟩ := getS2 X C.1 hZ hown (host := "") (Or.inl w) via eT F (g := mkF m pc Ls st) rfl (hb C.cdE hd)
  exact (k' T' ⟨s', L, X', B, hZ, hown, e', r1⟩).step stp
theorem k_newo {Cn : String} {index n : Nat} (C : KCx tbl nm cod ml ret p meth c Z a0) (P : KPos wd p l e R s m args below meth c Z own n0 h0 ws T h cells slots) (w : (Jvm.Cond.classLink own index Cn).before a0 Z = true) (wi : (Jvm.Cond.instantiable Cn n).before a0 Z = true) (wz : (Jvm.Cond.initialized Cn).before a0 Z = true) (hd : decode cod pc = .ok (.new index, 3))
    {cells' slots' : Nat} (hc : cells + 1 = cells') (hs : slots + n = slots') (hc' : cells' ≤ R.cells) (hs' : slots' ≤ R.slots) {pc' : Nat} (hp : pc + 3 = pc')
    (k' : ∀ T' h' a, KPos wd p l e R s m args below meth c Z own n0 h0 ws T' h' cells' slots' → h.size = a → n0 ≤ a → h0.size ≤ a → Ext h h' → Exa Z h' a Cn → (∀ {O nm d : String} {ty : FieldType}, Laid Z a0 Cn O nm d → parseFieldDescriptor d = some ty → Fld Z h' a O nm d (defaultValue ty)) → KGo p e below K T' m pc' Ls (.ref a :: st)) : KGo p e below K T m pc Ls st := by
  subst hp hc hs
  obtain ⟨s', Lo, X, B, hZ, hown, eT, r1, r2, r3⟩ := P
  obtain ⟨T', h', X', e', E, A, D, -, stp⟩ := newO X C.1 hZ hown w wi wz eT (g := mkF m pc Ls st) rfl (hb C.cdE hd) hc' hs'
  exact (k' T' h' _ ⟨s', _, X', B.mono E.1, hZ, hown, e', Nat.le_trans r1 E.1, r2, r3.ext E⟩ rfl r1 r3.1 E A D).step stp
theorem k_newp {aty : ArrayType} {z : Int32} {N cap : Nat} (C : KCx tbl nm cod ml ret p meth c Z a0) (P : KPos wd p l e R s m args below meth c Z own n0 h0 ws T h cells slots) (w : (Jvm.Cond.arrayClass (newarray.typeOf aty)).before a0 Z = true) (hd : decode cod pc = .ok (.newarray aty, 2)) (hN : z.toInt = (N : Int)) (hcap : N ≤ cap) (hb8 : cap * 8 ≤ 536870912)
    {cells' slots' : Nat} (hc : cells + 1 = cells') (hs : slots + cap = slots') (hc' : cells' ≤ R.cells) (hs' : slots' ≤ R.slots) {pc' : Nat} (hp : pc + 2 = pc')
    (k' : ∀ T' h' a k, KPos wd p l e R s m args below meth c Z own n0 h0 ws T' h' cells' slots' → h.size = a → n0 ≤ a → h0.size ≤ a → Ext h h' → KVA Z h' a k (newarray.typeOf aty) N (fun _ => defaultValue (newarray.typeOf aty)) → KGo p e below K T' m pc' Ls (.ref a :: st)) : KGo p e below K T m pc Ls (.int z :: st) := by
  subst hp hc hs
  obtain ⟨s', Lo, X, B, hZ, hown, eT, r1, r2, r3⟩ := P
  have e0 : ¬ z < 0 := by rw [Int32.lt_iff_toInt_lt]; have : (0 : Int32).toInt = 0 := rfl; omega
  have e1 : z.toNatClampNeg ≤ cap := by simp only [Int32.toNatClampNeg]; omega
  obtain ⟨T', h', kA, X', e', E, A, stp⟩ := newP X C.1 hZ w eT (g := mkF m pc Ls (.int z :: st)) rfl (hb C.cdE hd) rfl e0 e1 hb8 hc' hs'
  exact (k' T' h' _ kA ⟨s', _, X', B.mono E.1, hZ, hown, e', Nat.le_trans r1 E.1, r2, r3.ext E⟩ rfl r1 r3.1 E (KVA.new A hN)).step stp
theorem k_newr {Cn : String} {index : Nat} {z : Int32} {N cap : Nat} (C : KCx tbl nm cod ml ret p meth c Z a0) (P : KPos wd p l e R s m args below meth c Z own n0 h0 ws T h cells slots) (w : (Jvm.Cond.classLink own index Cn).before a0 Z = true) (w2 : (Jvm.Cond.arrayOver (.object Cn)).before a0 Z = true) (hd : decode cod pc = .ok (.anewarray index, 3)) (hN : z.toInt = (N : Int)) (hcap : N ≤ cap) (hb8 : cap * 8 ≤ 536870912)
    {cells' slots' : Nat} (hc : cells + 1 = cells') (hs : slots + cap = slots') (hc' : cells' ≤ R.cells) (hs' : slots' ≤ R.slots) {pc' : Nat} (hp : pc + 3 = pc')
    (k' : ∀ T' h' a k, KPos wd p l e R s m args below meth c Z own n0 h0 ws T' h' cells' slots' → h.size = a → n0 ≤ a → h0.size ≤ a → Ext h h' → KVA Z h' a k (.object Cn) N (fun _ => .null) → Ovr Z k Cn → KGo p e below K T' m pc' Ls (.ref a :: st)) : KGo p e below K T m pc Ls (.int z :: st) := by
  subst hp hc hs
  obtain ⟨s', Lo, X, B, hZ, hown, eT, r1, r2, r3⟩ := P
  have e0 : ¬ z < 0 := by rw [Int32.lt_iff_toInt_lt]; have : (0 : Int32).toInt = 0 := rfl; omega
  have e1 : z.toNatClampNeg ≤ cap := by simp only [Int32.toNatClampNeg]; omega
  obtain ⟨T', h', kA, X', e', E, A, O, stp⟩ := newR X C.1 hZ hown w w2 eT (g := mkF m pc Ls (.int z :: st)) rfl (hb C.cdE hd) rfl e0 e1 hb8 hc' hs'
  exact (k' T' h' _ kA ⟨s', _, X', B.mono E.1, hZ, hown, e', Nat.le_trans r1 E.1, r2, r3.ext E⟩ rfl r1 r3.1 E (KVA.new A hN) O).step stp
theorem k_newra {Cn ad : String} {ty : FieldType} {index : Nat} {z : Int32} {N cap : Nat} (C : KCx tbl nm cod ml ret p meth c Z a0) (P : KPos wd p l e R s m args below meth c Z own n0 h0 ws T h cells slots) (hC : (FieldType.array ty).toString = Cn) (had : "[" ++ Cn = ad) (w : (Jvm.Cond.classLink own index Cn).before a0 Z = true) (w2 : (Jvm.Cond.arrayOver (.array ty)).before a0 Z = true) (hd : decode cod pc = .ok (.anewarray index, 3)) (hN : z.toInt = (N : Int)) (hcap : N ≤ cap) (hb8 : cap * 8 ≤ 536870912)
    {cells' slots' : Nat} (hc : cells + 1 = cells') (hs : slots + cap = slots') (hc' : cells' ≤ R.cells) (hs' : slots' ≤ R.slots) {pc' : Nat} (hp : pc + 3 = pc')
    (k' : ∀ T' h' a k, KPos wd p l e R s m args below meth c Z own n0 h0 ws T' h' cells' slots' → h.size = a → n0 ≤ a → h0.size ≤ a → Ext h h' → KVA Z h' a k (.array ty) N (fun _ => .null) → Exa Z h' a ad → OvrA Z k ty Cn → KGo p e below K T' m pc' Ls (.ref a :: st)) : KGo p e below K T m pc Ls (.int z :: st) := by
  subst hp hc hs
  obtain ⟨s', Lo, X, B, hZ, hown, eT, r1, r2, r3⟩ := P
  have e0 : ¬ z < 0 := by rw [Int32.lt_iff_toInt_lt]; have : (0 : Int32).toInt = 0 := rfl; omega
  have e1 : z.toNatClampNeg ≤ cap := by simp only [Int32.toNatClampNeg]; omega
  obtain ⟨T', h', kA, X', e', E, A, Ex, O, stp⟩ := newRA X C.1 hZ hown hC w w2 eT (g := mkF m pc Ls (.int z :: st)) rfl (hb C.cdE hd) rfl e0 e1 hb8 hc' hs' had
  exact (k' T' h' _ kA ⟨s', _, X', B.mono E.1, hZ, hown, e', Nat.le_trans r1 E.1, r2, r3.ext E⟩ rfl r1 r3.1 E (KVA.new A hN) Ex O).step stp
theorem k_arrlen {k : ClassId} {ty : FieldType} {N : Nat} {f : Nat → Value} {z : Int32} (C : KCx tbl nm cod ml ret p meth c Z a0) (P : KPos wd p l e R s m args below meth c Z own n0 h0 ws T h cells slots) (V : KVA Z h a k ty N f) (hd : decode cod pc = .ok (.arraylength, 1)) (hz : z.toInt = (N : Int)) {pc' : Nat} (hp : pc + 1 = pc') (k' : KGo p e below K T m pc' Ls (.int z :: st)) : KGo p e below K T m pc Ls (.ref a :: st) := by
  subst hp
  obtain ⟨s', L, X, B, hZ, hown, eT, r1⟩ := P
  obtain ⟨cl, A, -, S, hN, -⟩ := V
  have e : cl.slots.size.toInt32 = z := by rw [S]; exact Int32.toInt_inj.mp (by rw [len_toInt hN, hz])
  subst e
  exact k'.step fun t q => X.arraylength C.1 (by rw [eT]; exact A.1) (State.isArrayOf_alike hZ.alike A.2.1) (g := mkF m pc Ls (.ref a :: st)) rfl rfl (hb C.cdE hd) t q
theorem k_iaload {k : ClassId} {N J : Nat} {f : Nat → Value} {j : Int32} {v : Value} (C : KCx tbl nm cod ml ret p meth c Z a0) (P : KPos wd p l e R s m args below meth c Z own n0 h0 ws T h cells slots) (V : KVA Z h a k .int N f) (hd : decode cod pc = .ok (.iaload, 1)) (hj : j.toInt = (J : Int)) (hJ : J < N) (hv : f J = v) {pc' : Nat} (hp : pc + 1 = pc') (k' : KGo p e below K T m pc' Ls (v :: st)) : KGo p e below K T m pc Ls (.int j :: .ref a :: st) := by
  subst hp hv
  obtain ⟨s', L, X, B, hZ, hown, eT, r1⟩ := P
  obtain ⟨cl, A, -, S, hN, H⟩ := V
  obtain ⟨q1, q2⟩ := k_idx hj (S.symm ▸ hJ)
  exact k'.step fun t q => X.iaload C.1 (by rw [eT]; exact A.1) (State.isArrayOf_alike hZ.alike A.2.1) A.2.2 q1 (by rw [q2]; exact H J hJ) (g := mkF m pc Ls (.int j :: .ref a :: st)) rfl rfl (hb C.cdE hd) t q
theorem k_laload {k : ClassId} {N J : Nat} {f : Nat → Value} {j : Int32} {v : Value} (C : KCx tbl nm cod ml ret p meth c Z a0) (P : KPos wd p l e R s m args below meth c Z own n0 h0 ws T h cells slots) (V : KVA Z h a k .long N f) (hd : decode cod pc = .ok (.laload, 1)) (hj : j.toInt = (J : Int)) (hJ : J < N) (hv : f J = v) {pc' : Nat} (hp : pc + 1 = pc') (k' : KGo p e below K T m pc' Ls (v :: st)) : KGo p e below K T m pc Ls (.int j :: .ref a :: st) := by
  subst hp hv
  obtain ⟨s', L, X, B, hZ, hown, eT, r1⟩ := P
  obtain ⟨cl, A, -, S, hN, H⟩ := V
  obtain ⟨q1, q2⟩ := k_idx hj (S.symm ▸ hJ)
  exact k'.step fun t q => X.laload C.1 (by rw [eT]; exact A.1) (State.isArrayOf_alike hZ.alike A.2.1) A.2.2 q1 (by rw [q2]; exact H J hJ) (g := mkF m pc Ls (.int j :: .ref a :: st)) rfl rfl (hb C.cdE hd) t q
theorem k_caload {k : ClassId} {N J : Nat} {f : Nat → Value} {j : Int32} {v : Value} (C : KCx tbl nm cod ml ret p meth c Z a0) (P : KPos wd p l e R s m args below meth c Z own n0 h0 ws T h cells slots) (V : KVA Z h a k .char N f) (hd : decode cod pc = .ok (.caload, 1)) (hj : j.toInt = (J : Int)) (hJ : J < N) (hv : f J = v) {pc' : Nat} (hp : pc + 1 = pc') (k' : KGo p e below K T m pc' Ls (v :: st)) : KGo p e below K T m pc Ls (.int j :: .ref a :: st) := by
  subst hp hv
  obtain ⟨s', L, X, B, hZ, hown, eT, r1⟩ := P
  obtain ⟨cl, A, -, S, hN, H⟩ := V
  obtain ⟨q1, q2⟩ := k_idx hj (S.symm ▸ hJ)
  exact k'.step fun t q => X.caload C.1 (by rw [eT]; exact A.1) (State.isArrayOf_alike hZ.alike A.2.1) A.2.2 q1 (by rw [q2]; exact H J hJ) (g := mkF m pc Ls (.int j :: .ref a :: st)) rfl rfl (hb C.cdE hd) t q
theorem k_baload {k : ClassId} {N J : Nat} {f : Nat → Value} {j : Int32} {v : Value} (C : KCx tbl nm cod ml ret p meth c Z a0) (P : KPos wd p l e R s m args below meth c Z own n0 h0 ws T h cells slots) (V : KVA Z h a k .byte N f) (hd : decode cod pc = .ok (.baload, 1)) (hj : j.toInt = (J : Int)) (hJ : J < N) (hv : f J = v) {pc' : Nat} (hp : pc + 1 = pc') (k' : KGo p e below K T m pc' Ls (v :: st)) : KGo p e below K T m pc Ls (.int j :: .ref a :: st) := by
  subst hp hv
  obtain ⟨s', L, X, B, hZ, hown, eT, r1⟩ := P
  obtain ⟨cl, A, -, S, hN, H⟩ := V
  obtain ⟨q1, q2⟩ := k_idx hj (S.symm ▸ hJ)
  exact k'.step fun t q => X.baloadBytes C.1 (by rw [eT]; exact A.1) (State.isArrayOf_alike hZ.alike A.2.1) A.2.2 q1 (by rw [q2]; exact H J hJ) (g := mkF m pc Ls (.int j :: .ref a :: st)) rfl rfl (hb C.cdE hd) t q
theorem k_daload {k : ClassId} {N J : Nat} {f : Nat → Value} {j : Int32} {v : Value} (C : KCx tbl nm cod ml ret p meth c Z a0) (P : KPos wd p l e R s m args below meth c Z own n0 h0 ws T h cells slots) (V : KVA Z h a k .double N f) (hd : decode cod pc = .ok (.daload, 1)) (hj : j.toInt = (J : Int)) (hJ : J < N) (hv : f J = v) {pc' : Nat} (hp : pc + 1 = pc') (k' : KGo p e below K T m pc' Ls (v :: st)) : KGo p e below K T m pc Ls (.int j :: .ref a :: st) := by
  subst hp hv
  obtain ⟨s', L, X, B, hZ, hown, eT, r1⟩ := P
  obtain ⟨cl, A, -, S, hN, H⟩ := V
  obtain ⟨q1, q2⟩ := k_idx hj (S.symm ▸ hJ)
  exact k'.step fun t q => X.daload C.1 (by rw [eT]; exact A.1) (State.isArrayOf_alike hZ.alike A.2.1) A.2.2 q1 (by rw [q2]; exact H J hJ) (g := mkF m pc Ls (.int j :: .ref a :: st)) rfl rfl (hb C.cdE hd) t q
theorem k_aaload {k : ClassId} {ty : FieldType} {N J : Nat} {f : Nat → Value} {j : Int32} {v : Value} (C : KCx tbl nm cod ml ret p meth c Z a0) (P : KPos wd p l e R s m args below meth c Z own n0 h0 ws T h cells slots) (V : KVA Z h a k ty N f) (hty : ty.isReference = true) (hd : decode cod pc = .ok (.aaload, 1)) (hj : j.toInt = (J : Int)) (hJ : J < N) (hv : f J = v) {pc' : Nat} (hp : pc + 1 = pc') (k' : KGo p e below K T m pc' Ls (v :: st)) : KGo p e below K T m pc Ls (.int j :: .ref a :: st) := by
  subst hp hv
  obtain ⟨s', L, X, B, hZ, hown, eT, r1⟩ := P
  obtain ⟨cl, A, -, S, hN, H⟩ := V
  obtain ⟨q1, q2⟩ := k_idx hj (S.symm ▸ hJ)
  exact k'.step fun t q => X.aaload C.1 (by rw [eT]; exact A.1) (State.isArrayOf_alike hZ.alike A.2.1) hty A.2.2 q1 (by rw [q2]; exact H J hJ) (g := mkF m pc Ls (.int j :: .ref a :: st)) rfl rfl (hb C.cdE hd) t q
theorem k_iastore {k : ClassId} {N J : Nat} {f g' : Nat → Value} {j : Int32} {x : Int32} (C : KCx tbl nm cod ml ret p meth c Z a0) (P : KPos wd p l e R s m args below meth c Z own n0 h0 ws T h cells slots) (V : KVA Z h a k .int N f) (hd : decode cod pc = .ok (.iastore, 1)) (hj : j.toInt = (J : Int)) (hJ : J < N) (hg' : ∀ i, i < N → (if i = J then (.int x : Value) else f i) = g' i) (ha : n0 ≤ a) (hk : a ∈ ws ∨ h0.size ≤ a) {pc' : Nat} (hp : pc + 1 = pc') (k' : ∀ T' h', KPos wd p l e R s m args below meth c Z own n0 h0 ws T' h' cells slots → Wr h h' a J (.int x) → KVA Z h' a k .int N g' → KGo p e below K T' m pc' Ls st) : KGo p e below K T m pc Ls (.int x :: .int j :: .ref a :: st) := by
  subst hp
  obtain ⟨s', Lo, X, B, hZ, hown, eT, r1, r2, r3⟩ := P
  have V0 := V
  obtain ⟨cl, A, -, S, hN, H⟩ := V
  obtain ⟨q1, q2⟩ := k_idx hj (S.symm ▸ hJ)
  obtain ⟨T', h', X', e', W, stp⟩ := stI X C.1 hZ eT A q1 (g := mkF m pc Ls (.int x :: .int j :: .ref a :: st)) rfl rfl (hb C.cdE hd)
  have W' := W
  rw [q2] at W'
  exact (k' T' h' ⟨s', _, X', B.mono (Nat.le_of_eq W.size.symm), hZ, hown, e', W.size ▸ r1, Fr.snoc X' r2 ha, r3.wr W hk⟩ W' (V0.set W' hg')).step stp
theorem k_lastore {k : ClassId} {N J : Nat} {f g' : Nat → Value} {j : Int32} {x : Int64} (C : KCx tbl nm cod ml ret p meth c Z a0) (P : KPos wd p l e R s m args below meth c Z own n0 h0 ws T h cells slots) (V : KVA Z h a k .long N f) (hd : decode cod pc = .ok (.lastore, 1)) (hj : j.toInt = (J : Int)) (hJ : J < N) (hg' : ∀ i, i < N → (if i = J then (.long x : Value) else f i) = g' i) (ha : n0 ≤ a) (hk : a ∈ ws ∨ h0.size ≤ a) {pc' : Nat} (hp : pc + 1 = pc') (k' : ∀ T' h', KPos wd p l e R s m args below meth c Z own n0 h0 ws T' h' cells slots → Wr h h' a J (.long x) → KVA Z h' a k .long N g' → KGo p e below K T' m pc' Ls st) : KGo p e below K T m pc Ls (.long x :: .int j :: .ref a :: st) := by
  subst hp
  obtain ⟨s', Lo, X, B, hZ, hown, eT, r1, r2, r3⟩ := P
  have V0 := V
  obtain ⟨cl, A, -, S, hN, H⟩ := V
  obtain ⟨q1, q2⟩ := k_idx hj (S.symm ▸ hJ)
  obtain ⟨T', h', X', e', W, stp⟩ := stJ X C.1 hZ eT A q1 (g := mkF m pc Ls (.long x :: .int j :: .ref a :: st)) rfl rfl (hb C.cdE hd)
  have W' := W
  rw [q2] at W'
  exact (k' T' h' ⟨s', _, X', B.mono (Nat.le_of_eq W.size.symm), hZ, hown, e', W.size ▸ r1, Fr.snoc X' r2 ha, r3.wr W hk⟩ W' (V0.set W' hg')).step stp
theorem k_castore {k : ClassId} {N J : Nat} {f g' : Nat → Value} {j : Int32} {x : Int32} (C : KCx tbl nm cod ml ret p meth c Z a0) (P : KPos wd p l e R s m args below meth c Z own n0 h0 ws T h cells slots) (V : KVA Z h a k .char N f) (hd : decode cod pc = .ok (.castore, 1)) (hj : j.toInt = (J : Int)) (hJ : J < N) (hg' : ∀ i, i < N → (if i = J then (.int (nar .char x) : Value) else f i) = g' i) (ha : n0 ≤ a) (hk : a ∈ ws ∨ h0.size ≤ a) {pc' : Nat} (hp : pc + 1 = pc') (k' : ∀ T' h', KPos wd p l e R s m args below meth c Z own n0 h0 ws T' h' cells slots → Wr h h' a J (.int (nar .char x)) → KVA Z h' a k .char N g' → KGo p e below K T' m pc' Ls st) : KGo p e below K T m pc Ls (.int x :: .int j :: .ref a :: st) := by
  subst hp
  obtain ⟨s', Lo, X, B, hZ, hown, eT, r1, r2, r3⟩ := P
  have V0 := V
  obtain ⟨cl, A, -, S, hN, H⟩ := V
  obtain ⟨q1, q2⟩ := k_idx hj (S.symm ▸ hJ)
  obtain ⟨T', h', X', e', W, stp⟩ := stC X C.1 hZ eT A q1 (g := mkF m pc Ls (.int x :: .int j :: .ref a :: st)) rfl rfl (hb C.cdE hd)
  have W' := W
  rw [q2] at W'
  exact (k' T' h' ⟨s', _, X', B.mono (Nat.le_of_eq W.size.symm), hZ, hown, e', W.size ▸ r1, Fr.snoc X' r2 ha, r3.wr W hk⟩ W' (V0.set W' hg')).step stp
theorem k_bastore {k : ClassId} {N J : Nat} {f g' : Nat → Value} {j : Int32} {x : Int32} (C : KCx tbl nm cod ml ret p meth c Z a0) (P : KPos wd p l e R s m args below meth c Z own n0 h0 ws T h cells slots) (V : KVA Z h a k .byte N f) (hd : decode cod pc = .ok (.bastore, 1)) (hj : j.toInt = (J : Int)) (hJ : J < N) (hg' : ∀ i, i < N → (if i = J then (.int (nar .byte x) : Value) else f i) = g' i) (ha : n0 ≤ a) (hk : a ∈ ws ∨ h0.size ≤ a) {pc' : Nat} (hp : pc + 1 = pc') (k' : ∀ T' h', KPos wd p l e R s m args below meth c Z own n0 h0 ws T' h' cells slots → Wr h h' a J (.int (nar .byte x)) → KVA Z h' a k .byte N g' → KGo p e below K T' m pc' Ls st) : KGo p e below K T m pc Ls (.int x :: .int j :: .ref a :: st) := by
  subst hp
  obtain ⟨s', Lo, X, B, hZ, hown, eT, r1, r2, r3⟩ := P
  have V0 := V
  obtain ⟨cl, A, -, S, hN, H⟩ := V
  obtain ⟨q1, q2⟩ := k_idx hj (S.symm ▸ hJ)
  obtain ⟨T', h', X', e', W, stp⟩ := stB X C.1 hZ eT A q1 (g := mkF m pc Ls (.int x :: .int j :: .ref a :: st)) rfl rfl (hb C.cdE hd)
  have W' := W
  rw [q2] at W'
  exact (k' T' h' ⟨s', _, X', B.mono (Nat.le_of_eq W.size.symm), hZ, hown, e', W.size ▸ r1, Fr.snoc X' r2 ha, r3.wr W hk⟩ W' (V0.set W' hg')).step stp
theorem k_dastore {k : ClassId} {N J : Nat} {f g' : Nat → Value} {j : Int32} {x : UInt64} (C : KCx tbl nm cod ml ret p meth c Z a0) (P : KPos wd p l e R s m args below meth c Z own n0 h0 ws T h cells slots) (V : KVA Z h a k .double N f) (hd : decode cod pc = .ok (.dastore, 1)) (hj : j.toInt = (J : Int)) (hJ : J < N) (hg' : ∀ i, i < N → (if i = J then (.double x : Value) else f i) = g' i) (ha : n0 ≤ a) (hk : a ∈ ws ∨ h0.size ≤ a) {pc' : Nat} (hp : pc + 1 = pc') (k' : ∀ T' h', KPos wd p l e R s m args below meth c Z own n0 h0 ws T' h' cells slots → Wr h h' a J (.double x) → KVA Z h' a k .double N g' → KGo p e below K T' m pc' Ls st) : KGo p e below K T m pc Ls (.double x :: .int j :: .ref a :: st) := by
  subst hp
  obtain ⟨s', Lo, X, B, hZ, hown, eT, r1, r2, r3⟩ := P
  have V0 := V
  obtain ⟨cl, A, -, S, hN, H⟩ := V
  obtain ⟨q1, q2⟩ := k_idx hj (S.symm ▸ hJ)
  obtain ⟨T', h', X', e', W, stp⟩ := stD X C.1 hZ eT A q1 (g := mkF m pc Ls (.double x :: .int j :: .ref a :: st)) rfl rfl (hb C.cdE hd)
  have W' := W
  rw [q2] at W'
  exact (k' T' h' ⟨s', _, X', B.mono (Nat.le_of_eq W.size.symm), hZ, hown, e', W.size ▸ r1, Fr.snoc X' r2 ha, r3.wr W hk⟩ W' (V0.set W' hg')).step stp
theorem k_aastore {k : ClassId} {ty : FieldType} {N J : Nat} {f g' : Nat → Value} {j : Int32} {x : Value} (C : KCx tbl nm cod ml ret p meth c Z a0) (P : KPos wd p l e R s m args below meth c Z own n0 h0 ws T h cells slots) (V : KVA Z h a k ty N f) (hty : ty.isReference = true) (S0 : Sto Z h a x) (hd : decode cod pc = .ok (.aastore, 1)) (hj : j.toInt = (J : Int)) (hJ : J < N) (hg' : ∀ i, i < N → (if i = J then x else f i) = g' i) (ha : n0 ≤ a) (hk : a ∈ ws ∨ h0.size ≤ a) {pc' : Nat} (hp : pc + 1 = pc') (k' : ∀ T' h', KPos wd p l e R s m args below meth c Z own n0 h0 ws T' h' cells slots → Wr h h' a J x → KVA Z h' a k ty N g' → KGo p e below K T' m pc' Ls st) : KGo p e below K T m pc Ls (x :: .int j :: .ref a :: st) := by
  subst hp
  obtain ⟨s', Lo, X, B, hZ, hown, eT, r1, r2, r3⟩ := P
  have V0 := V
  obtain ⟨cl, A, -, S, hN, H⟩ := V
  obtain ⟨q1, q2⟩ := k_idx hj (S.symm ▸ hJ)
  obtain ⟨T', h', X', e', W, stp⟩ := stR X C.1 hZ eT A q1 hty S0 (g := mkF m pc Ls (x :: .int j :: .ref a :: st)) rfl rfl (hb C.cdE hd)
  have W' := W
  rw [q2] at W'
  exact (k' T' h' ⟨s', _, X', B.mono (Nat.le_of_eq W.size.symm), hZ, hown, e', W.size ▸ r1, Fr.snoc X' r2 ha, r3.wr W hk⟩ W' (V0.set W' hg')).step stp
theorem KVA.sto {k : ClassId} {N : Nat} {f : Nat → Value} {Cn K1 : String} {ty : FieldType} (V : KVA Z h a k ty N f) (O : Ovr Z k Cn) (I : Ins Z h b Cn true) : Sto Z h a (.ref b) := by
  obtain ⟨cl, A, q, -⟩ := V; exact Sto.ofV A q O I
theorem KVA.stoA {k : ClassId} {N : Nat} {f : Nat → Value} {Cn : String} {ty t0 : FieldType} (V : KVA Z h a k t0 N f) (O : OvrA Z k ty Cn) (I : Ins Z h b Cn true) : Sto Z h a (.ref b) := by
  obtain ⟨cl, A, q, -⟩ := V; exact Sto.ofVA A q O I
theorem k_ldcI {index : Nat} {z : Int32} (C : KCx tbl nm cod ml ret p meth c Z a0) (P : KPos wd p l e R s m args below meth c Z own n0 h0 ws T h cells slots) (w : (Jvm.Cond.constant own index z).before a0 Z = true) (hd : decode cod pc = .ok (.ldc index, 2)) {pc' : Nat} (hp : pc + 2 = pc') (k' : KGo p e below K T m pc' Ls (.int z :: st)) : KGo p e below K T m pc Ls st := by
  subst hp
  obtain ⟨s', L, X, B, hZ, hown, eT, r1⟩ := P
  exact k'.step fun t q => X.ldcInt C.1 hown (mvT hZ w) (g := mkF m pc Ls st) rfl (hb C.cdE hd) t q
theorem k_ldc2L {index : Nat} {z : Int64} (C : KCx tbl nm cod ml ret p meth c Z a0) (P : KPos wd p l e R s m args below meth c Z own n0 h0 ws T h cells slots) (w : (Jvm.Cond.constantLong own index z).before a0 Z = true) (hd : decode cod pc = .ok (.ldc2_w index, 3)) {pc' : Nat} (hp : pc + 3 = pc') (k' : KGo p e below K T m pc' Ls (.long z :: st)) : KGo p e below K T m pc Ls st := by
  subst hp
  obtain ⟨s', L, X, B, hZ, hown, eT, r1⟩ := P
  exact k'.step fun t q => X.ldc2Long C.1 hown (mvT hZ w) (g := mkF m pc Ls st) rfl (hb C.cdE hd) t q
theorem k_ldc2D {index : Nat} {z : UInt64} (C : KCx tbl nm cod ml ret p meth c Z a0) (P : KPos wd p l e R s m args below meth c Z own n0 h0 ws T h cells slots) (w : (Jvm.Cond.constantDouble own index z).before a0 Z = true) (hd : decode cod pc = .ok (.ldc2_w index, 3)) {pc' : Nat} (hp : pc + 3 = pc') (k' : KGo p e below K T m pc' Ls (.double z :: st)) : KGo p e below K T m pc Ls st := by
  subst hp
  obtain ⟨s', L, X, B, hZ, hown, eT, r1⟩ := P
  exact k'.step fun t q => X.ldc2DoubleC C.1 hown (mvT hZ w) (g := mkF m pc Ls st) rfl (hb C.cdE hd) t q
theorem k_castO {Kn : String} {index : Nat} (C : KCx tbl nm cod ml ret p meth c Z a0) (P : KPos wd p l e R s m args below meth c Z own n0 h0 ws T h cells slots) (w : (Jvm.Cond.classLink own index Kn).before a0 Z = true) (F : Ins Z h a Kn true) (hd : decode cod pc = .ok (.checkcast index, 3)) {pc' : Nat} (hp : pc + 3 = pc') (k' : ∀ T', KPos wd p l e R s m args below meth c Z own n0 h0 ws T' h cells slots → KGo p e below K T' m pc' Ls (.ref a :: st)) : KGo p e below K T m pc Ls (.ref a :: st) := by
  subst hp
  obtain ⟨s', L, X, B, hZ, hown, eT, r1⟩ := P
  obtain ⟨T', X', e', stp⟩ := castY X C.1 hZ hown w eT F (g := mkF m pc Ls (.ref a :: st)) rfl rfl (hb C.cdE hd)
  exact (k' T' ⟨s', L, X', B, hZ, hown, e', r1⟩).step stp
/-! ### calls -/
theorem k_initObj {index W : Nat} (C : KCx tbl nm cod ml ret p meth c Z a0) (P : KPos wd p l e R s m args below meth c Z own n0 h0 ws T h cells slots) (w1 : (Jvm.Cond.methodLink own index Lib.objectInit).before a0 Z = true) (w2 : (Jvm.Cond.instanceMethod Lib.objectInit).before a0 Z = true) (w3 : (Jvm.Cond.code Lib.objectInit ⟨#[0xb1]⟩ 1 none).before a0 Z = true)
    (hd : decode cod pc = .ok (.invokespecial index, 3)) (hsz : Ls.size = ml) (hf : 1 ≤ R.frames) (hW : (st.map fun v => v.category).sum ≤ W) (hl : W + 12 ≤ R.locals) {pc' : Nat} (hp : pc + 3 = pc') (k' : ∀ T', KPos wd p l e R s m args below meth c Z own n0 h0 ws T' h cells slots → KGo p e below K T' m pc' Ls st) : KGo p e below K T m pc Ls (.ref a :: st) := by
  subst hp
  obtain ⟨s', L, X, B, hZ, hown, eT, r1⟩ := P
  obtain ⟨T', X', e', stp⟩ := initO X C.1 hZ hown w1 w2 w3 eT (g := mkF m pc Ls (.ref a :: st)) rfl (hsz.trans C.mlE.symm) rfl (hb C.cdE hd) hf (by show 2 * 0 + _ ≤ _; rw [Nat.mul_zero, Nat.zero_add]; exact hW) hl
  exact (k' T' ⟨s', L, X', B, hZ, hown, e', r1⟩).step stp
theorem k_callN {y : MethodName} {index W maxL : Nat} {bytes : ByteArray} {rm : Room} {as : Array Value} {ws' : List Addr} {Q : Option Value → Heap → Prop} (C : KCx tbl nm cod ml ret p meth c Z a0) (P : KPos wd p l e R s m args below meth c Z own n0 h0 ws T h cells slots)
    (hy1 : y.name = "<init>") (w1 : (Jvm.Cond.methodLink own index y).before a0 Z = true) (w2 : (Jvm.Cond.instanceMethod y).before a0 Z = true) (w3 : (Jvm.Cond.code y bytes maxL none).before a0 Z = true) (w4 : (Jvm.Cond.initialized y.cls).before a0 Z = true) (hy : y.cls ≠ "java/lang/invoke/MethodHandle" ∧ y.cls ≠ "java/lang/invoke/VarHandle")
    (hM : KCt false l y bytes maxL none rm Z n0 h as ws' Q) (a : Addr) (argsL rest : List Value) (has : as = (.ref a :: argsL).toArray) (hlen : ∀ sig, parseMethodDescriptor y.desc = some sig → argsL.length = sig.parameters.length) (hst : st = argsL.reverse ++ .ref a :: rest) (hW : (rest.map fun v => v.category).sum ≤ W)
    (hd : decode cod pc = .ok (.invokespecial index, 3)) (hsz : Ls.size = ml) (hf : rm.frames + 1 ≤ R.frames) (hl : W + (maxL + 11) + rm.locals ≤ R.locals) {cells' slots' : Nat} (hc : cells + rm.cells = cells') (hs : slots + rm.slots = slots') (hc' : cells' ≤ R.cells) (hs' : slots' ≤ R.slots) (hws : ∀ x ∈ ws', x ∈ ws ∨ h0.size ≤ x) {pc' : Nat} (hp : pc + 3 = pc')
    (k' : ∀ T' h' v, KPos wd p l e R s m args below meth c Z own n0 h0 ws T' h' cells' slots' → Keep h h' ws' → Q v h' → KGo p e below K T' m pc' Ls (v.toList ++ rest)) : KGo p e below K T m pc Ls st := by
  subst hp hc hs has
  obtain ⟨s', L, X, B, hZ, hown, eT, r1, r2, r3⟩ := P
  obtain ⟨v, _, ⟨T', L', k1, n1⟩, -, X', ⟨Lc, ⟨q1, q2, q3⟩, l1, y1, z1⟩, stp⟩ := X.specialBack C.1 (y := y) hy1 hown (mvT hZ w1) (mvT hZ w2) (mvT hZ w3) hy (backOf (W := W) (Q := fun v h' L => Fr n0 L ∧ Keep h h' ws' ∧ Q v h') hM.plain hZ w3 w4 hf hl) (g := mkF m pc Ls st) rfl (hsz.trans C.mlE.symm) (Steps.refl _) (a := a) (argsL := argsL) (rest := rest) hlen hst (by show 2 * 0 + _ ≤ _; rw [Nat.mul_zero, Nat.zero_add]; exact hW) (hb C.cdE hd) (fun _ _ => ⟨rfl, eT, hc', hs'⟩)
  dsimp only [Pt.U, Pt.locs, Pt.cells, Pt.slots] at X' l1 y1 z1 stp q2 q3
  subst l1 y1 z1
  exact (k' T' T'.heap v ⟨s', _, X', B.mono q2.1, hZ, hown, rfl, Nat.le_trans r1 q2.1, Fr.app r2 q1, r3.trans q2 hws⟩ q2 q3).step fun t q => stp.trans q
theorem k_callV {y z : MethodName} {Cn : String} {index W maxL : Nat} {bytes : ByteArray} {rt : Option FieldType} {rm : Room} {as : Array Value} {ws' : List Addr} {Q : Option Value → Heap → Prop} (C : KCx tbl nm cod ml ret p meth c Z a0) (P : KPos wd p l e R s m args below meth c Z own n0 h0 ws T h cells slots)
    (w1 : (Jvm.Cond.methodLink own index y).before a0 Z = true) (wdc : (Jvm.Cond.declares y).before a0 Z = true) (nf : ∀ s' : State, Z.Warmed39 s'.vm → NotFace s' y) (wsel : (Jvm.Cond.selects Cn y z).before a0 Z = true) (w2 : (Jvm.Cond.instanceMethod z).before a0 Z = true) (w3 : (Jvm.Cond.code z bytes maxL rt).before a0 Z = true) (w4 : (Jvm.Cond.initialized z.cls).before a0 Z = true) (hy : y.cls ≠ "java/lang/invoke/MethodHandle" ∧ y.cls ≠ "java/lang/invoke/VarHandle")
    (hM : KCt false l z bytes maxL rt rm Z n0 h as ws' Q) (E : Exa Z h a Cn) (argsL rest : List Value) (has : as = (.ref a :: argsL).toArray) (hlen : ∀ sig, parseMethodDescriptor y.desc = some sig → argsL.length = sig.parameters.length) (hst : st = argsL.reverse ++ .ref a :: rest) (hW : (rest.map fun v => v.category).sum ≤ W)
    (hd : decode cod pc = .ok (.invokevirtual index, 3)) (hsz : Ls.size = ml) (hf : rm.frames + 1 ≤ R.frames) (hl : W + (maxL + 11) + rm.locals ≤ R.locals) {cells' slots' : Nat} (hc : cells + rm.cells = cells') (hs : slots + rm.slots = slots') (hc' : cells' ≤ R.cells) (hs' : slots' ≤ R.slots) (hws : ∀ x ∈ ws', x ∈ ws ∨ h0.size ≤ x) {pc' : Nat} (hp : pc + 3 = pc')
    (k' : ∀ T' h' v, KPos wd p l e R s m args below meth c Z own n0 h0 ws T' h' cells' slots' → Keep h h' ws' → Q v h' → KGo p e below K T' m pc' Ls (v.toList ++ rest)) : KGo p e below K T m pc Ls st := by
  subst hp hc hs has
  obtain ⟨s', L, X, B, hZ, hown, eT, r1, r2, r3⟩ := P
  obtain ⟨cq, kq, qa, qb, qc⟩ := isOf hZ eT E
  obtain ⟨v, _, ⟨T', L', k1, n1⟩, -, X', ⟨Lc, ⟨q1, q2, q3⟩, l1, y1, z1⟩, stp⟩ := X.virtualBack C.1 (y := y) (z := z) hown (mvT hZ w1) (mvT hZ wdc) (nf s' hZ) (mvT hZ wsel) (mvT hZ w2) hy (backOf (W := W) (Q := fun v h' L => Fr n0 L ∧ Keep h h' ws' ∧ Q v h') hM.plain hZ w3 w4 hf hl) qa qc (g := mkF m pc Ls st) rfl (hsz.trans C.mlE.symm) (Steps.refl _) (argsL := argsL) (rest := rest) hlen hst (by show 2 * 0 + _ ≤ _; rw [Nat.mul_zero, Nat.zero_add]; exact hW) (hb C.cdE hd) (fun _ _ => ⟨rfl, eT, hc', hs'⟩)
  dsimp only [Pt.U, Pt.locs, Pt.cells, Pt.slots] at X' l1 y1 z1 stp q2 q3
  subst l1 y1 z1
  exact (k' T' T'.heap v ⟨s', _, X', B.mono q2.1, hZ, hown, rfl, Nat.le_trans r1 q2.1, Fr.app r2 q1, r3.trans q2 hws⟩ q2 q3).step fun t q => stp.trans q
theorem k_callI {xi y : MethodName} {Cn : String} {index count W maxL : Nat} {bytes : ByteArray} {rt : Option FieldType} {rm : Room} {as : Array Value} {ws' : List Addr} {Q : Option Value → Heap → Prop} (C : KCx tbl nm cod ml ret p meth c Z a0) (P : KPos wd p l e R s m args below meth c Z own n0 h0 ws T h cells slots)
    (w1 : (Jvm.Cond.methodLink own index xi).before a0 Z = true) (wdc : (Jvm.Cond.declares xi).before a0 Z = true) (wf : (Jvm.Cond.interfaceMethod xi.cls xi.cls xi.name xi.desc).before a0 Z = true) (wsel : (Jvm.Cond.selects Cn xi y).before a0 Z = true) (w2 : (Jvm.Cond.instanceMethod y).before a0 Z = true) (wp : (Jvm.Cond.publicMethod y).before a0 Z = true) (wu : (Jvm.Cond.unhidden Cn xi.name xi.desc).before a0 Z = true) (wc : (Jvm.Cond.castable Cn xi.cls).before a0 Z = true)
    (w3 : (Jvm.Cond.code y bytes maxL rt).before a0 Z = true) (w4 : (Jvm.Cond.initialized y.cls).before a0 Z = true) (hy : xi.cls ≠ "java/lang/invoke/MethodHandle" ∧ xi.cls ≠ "java/lang/invoke/VarHandle")
    (hM : KCt false l y bytes maxL rt rm Z n0 h as ws' Q) (E : Exa Z h a Cn) (argsL rest : List Value) (has : as = (.ref a :: argsL).toArray) (hlen : ∀ sig, parseMethodDescriptor xi.desc = some sig → argsL.length = sig.parameters.length) (hst : st = argsL.reverse ++ .ref a :: rest) (hW : (rest.map fun v => v.category).sum ≤ W)
    (hd : decode cod pc = .ok (.invokeinterface index count, 5)) (hsz : Ls.size = ml) (hf : rm.frames + 1 ≤ R.frames) (hl : W + (maxL + 11) + rm.locals ≤ R.locals) {cells' slots' : Nat} (hc : cells + rm.cells = cells') (hs : slots + rm.slots = slots') (hc' : cells' ≤ R.cells) (hs' : slots' ≤ R.slots) (hws : ∀ x ∈ ws', x ∈ ws ∨ h0.size ≤ x) {pc' : Nat} (hp : pc + 5 = pc')
    (k' : ∀ T' h' v, KPos wd p l e R s m args below meth c Z own n0 h0 ws T' h' cells' slots' → Keep h h' ws' → Q v h' → KGo p e below K T' m pc' Ls (v.toList ++ rest)) : KGo p e below K T m pc Ls st := by
  subst hp hc hs has
  obtain ⟨s', L, X, B, hZ, hown, eT, r1, r2, r3⟩ := P
  obtain ⟨cq, kq, qa, qb, qc⟩ := isOf hZ eT E
  obtain ⟨v, _, ⟨T', L', k1, n1⟩, -, X', ⟨Lc, ⟨q1, q2, q3⟩, l1, y1, z1⟩, stp⟩ := X.interfaceBack C.1 (xi := xi) (y := y) hown (mvT hZ w1) (mvT hZ wdc) (mvT hZ wf (by simp [Cond.onTables, Cond.keepsFace, Cond.faceAtom, hy.1, hy.2])) (mvT hZ wsel) (mvT hZ w2) (mvT hZ wp) (mvT hZ wu) (mvT hZ wc) hy (backOf (W := W) (Q := fun v h' L => Fr n0 L ∧ Keep h h' ws' ∧ Q v h') hM.plain hZ w3 w4 hf hl) qa qb qc (g := mkF m pc Ls st) rfl (hsz.trans C.mlE.symm) (Steps.refl _) (argsL := argsL) (rest := rest) hlen hst (by show 2 * 0 + _ ≤ _; rw [Nat.mul_zero, Nat.zero_add]; exact hW) (hb C.cdE hd) (fun _ _ => ⟨rfl, eT, hc', hs'⟩)
  dsimp only [Pt.U, Pt.locs, Pt.cells, Pt.slots] at X' l1 y1 z1 stp q2 q3
  subst l1 y1 z1
  exact (k' T' T'.heap v ⟨s', _, X', B.mono q2.1, hZ, hown, rfl, Nat.le_trans r1 q2.1, Fr.app r2 q1, r3.trans q2 hws⟩ q2 q3).step fun t q => stp.trans q
theorem k_callP {y : MethodName} {Cn : String} {index W maxL : Nat} {bytes : ByteArray} {rt : Option FieldType} {rm : Room} {as : Array Value} {ws' : List Addr} {Q : Option Value → Heap → Prop} (C : KCx tbl nm cod ml ret p meth c Z a0) (P : KPos wd p l e R s m args below meth c Z own n0 h0 ws T h cells slots)
    (w1 : (Jvm.Cond.methodLink own index y).before a0 Z = true) (w2 : (Jvm.Cond.instanceMethod y).before a0 Z = true) (wsel : (Jvm.Cond.selects y.cls y y).before a0 Z = true) (wp : (Jvm.Cond.privateMethod y).before a0 Z = true) (w3 : (Jvm.Cond.code y bytes maxL rt).before a0 Z = true) (w4 : (Jvm.Cond.initialized y.cls).before a0 Z = true) (hy : y.cls ≠ "java/lang/invoke/MethodHandle" ∧ y.cls ≠ "java/lang/invoke/VarHandle")
    (hM : KCt false l y bytes maxL rt rm Z n0 h as ws' Q) (E : Exa Z h a Cn) (argsL rest : List Value) (has : as = (.ref a :: argsL).toArray) (hlen : ∀ sig, parseMethodDescriptor y.desc = some sig → argsL.length = sig.parameters.length) (hst : st = argsL.reverse ++ .ref a :: rest) (hW : (rest.map fun v => v.category).sum ≤ W)
    (hd : decode cod pc = .ok (.invokevirtual index, 3)) (hsz : Ls.size = ml) (hf : rm.frames + 1 ≤ R.frames) (hl : W + (maxL + 11) + rm.locals ≤ R.locals) {cells' slots' : Nat} (hc : cells + rm.cells = cells') (hs : slots + rm.slots = slots') (hc' : cells' ≤ R.cells) (hs' : slots' ≤ R.slots) (hws : ∀ x ∈ ws', x ∈ ws ∨ h0.size ≤ x) {pc' : Nat} (hp : pc + 3 = pc')
    (k' : ∀ T' h' v, KPos wd p l e R s m args below meth c Z own n0 h0 ws T' h' cells' slots' → Keep h h' ws' → Q v h' → KGo p e below K T' m pc' Ls (v.toList ++ rest)) : KGo p e below K T m pc Ls st := by
  subst hp hc hs has
  obtain ⟨s', L, X, B, hZ, hown, eT, r1, r2, r3⟩ := P
  obtain ⟨cq, qa, qb⟩ := E.cell
  obtain ⟨v, _, ⟨T', L', k1, n1⟩, -, X', ⟨Lc, ⟨q1, q2, q3⟩, l1, y1, z1⟩, stp⟩ := X.privateBack C.1 (y := y) hown (mvT hZ w1) (mvT hZ w2) (mvT hZ wsel) (Cond.privateMethod_at (mvP hZ wp (args := #[]))) (mvT hZ w3) hy (backOf (W := W) (Q := fun v h' L => Fr n0 L ∧ Keep h h' ws' ∧ Q v h') hM.plain hZ w3 w4 hf hl) (g := mkF m pc Ls st) rfl (hsz.trans C.mlE.symm) (Steps.refl _) (a := a) (by rw [eT]; exact qa) qb (argsL := argsL) (rest := rest) hlen hst (by show 2 * 0 + _ ≤ _; rw [Nat.mul_zero, Nat.zero_add]; exact hW) (hb C.cdE hd) (fun _ _ => ⟨rfl, eT, hc', hs'⟩)
  dsimp only [Pt.U, Pt.locs, Pt.cells, Pt.slots] at X' l1 y1 z1 stp q2 q3
  subst l1 y1 z1
  exact (k' T' T'.heap v ⟨s', _, X', B.mono q2.1, hZ, hown, rfl, Nat.le_trans r1 q2.1, Fr.app r2 q1, r3.trans q2 hws⟩ q2 q3).step fun t q => stp.trans q
theorem k_callT {y : MethodName} {index W maxL : Nat} {bytes : ByteArray} {rt : Option FieldType} {rm : Room} {as : Array Value} {ws' : List Addr} {Q : Option Value → Heap → Prop} (C : KCx tbl nm cod ml ret p meth c Z a0) (P : KPos wd p l e R s m args below meth c Z own n0 h0 ws T h cells slots)
    (w1 : (Jvm.Cond.methodLink own index y).before a0 Z = true) (w2 : (Jvm.Cond.static y).before a0 Z = true) (w3 : (Jvm.Cond.code y bytes maxL rt).before a0 Z = true) (w4 : (Jvm.Cond.initialized y.cls).before a0 Z = true) (hy : y.cls ≠ "java/lang/invoke/MethodHandle" ∧ y.cls ≠ "java/lang/invoke/VarHandle")
    (hM : KCt false l y bytes maxL rt rm Z n0 h as ws' Q) (argsL rest : List Value) (has : as = argsL.toArray) (hlen : ∀ sig, parseMethodDescriptor y.desc = some sig → argsL.length = sig.parameters.length) (hst : st = argsL.reverse ++ rest) (hW : (rest.map fun v => v.category).sum ≤ W)
    (hd : decode cod pc = .ok (.invokestatic index, 3)) (hsz : Ls.size = ml) (hf : rm.frames + 1 ≤ R.frames) (hl : W + (maxL + 11) + rm.locals ≤ R.locals) {cells' slots' : Nat} (hc : cells + rm.cells = cells') (hs : slots + rm.slots = slots') (hc' : cells' ≤ R.cells) (hs' : slots' ≤ R.slots) (hws : ∀ x ∈ ws', x ∈ ws ∨ h0.size ≤ x) {pc' : Nat} (hp : pc + 3 = pc')
    (k' : ∀ T' h' v, KPos wd p l e R s m args below meth c Z own n0 h0 ws T' h' cells' slots' → Keep h h' ws' → Q v h' → KGo p e below K T' m pc' Ls (v.toList ++ rest)) : KGo p e below K T m pc Ls st := by
  subst hp hc hs has
  obtain ⟨s', L, X, B, hZ, hown, eT, r1, r2, r3⟩ := P
  obtain ⟨v, _, ⟨T', L', k1, n1⟩, -, X', ⟨Lc, ⟨q1, q2, q3⟩, l1, y1, z1⟩, stp⟩ := Jvm.LawKit.callS X C.1 (y := y) hown (mvT hZ w1) (mvT hZ w2) (mvT hZ w4) (mvT hZ w3) hy (backOf (W := W) (Q := fun v h' L => Fr n0 L ∧ Keep h h' ws' ∧ Q v h') hM.plain hZ w3 w4 hf hl) (g := mkF m pc Ls st) rfl (hsz.trans C.mlE.symm) (argsL := argsL) (rest := rest) hlen hst (by show 2 * 0 + _ ≤ _; rw [Nat.mul_zero, Nat.zero_add]; exact hW) (hb C.cdE hd) (fun _ _ => ⟨rfl, eT, hc', hs'⟩)
  dsimp only [Pt.U, Pt.locs, Pt.cells, Pt.slots] at X' l1 y1 z1 stp q2 q3
  subst l1 y1 z1
  exact (k' T' T'.heap v ⟨s', _, X', B.mono q2.1, hZ, hown, rfl, Nat.le_trans r1 q2.1, Fr.app r2 q1, r3.trans q2 hws⟩ q2 q3).step stp
theorem k_ldcS {index : Nat} {text : String} {n : Nat} (C : KCx tbl nm cod ml ret p meth c Z a0) (P : KPos true p l e R s m args below meth c Z own n0 h0 ws T h cells slots) (w : (Jvm.Cond.stringLink own index text).before a0 Z = true) (wS : ∀ a ∈ Bundle.stringAtoms, a.before a0 Z = true) (hd : decode cod pc = .ok (.ldc index, 2)) (hn : 4 * text.toList.length ≤ n) (hbig : n ≤ 536870912)
    {cells' slots' : Nat} (hc : cells + 2 = cells') (hs : slots + (n + 4) = slots') (hc' : cells' ≤ R.cells) (hs' : slots' ≤ R.slots) {pc' : Nat} (hp : pc + 2 = pc')
    (k' : ∀ T' h' a, KPos true p l e R s m args below meth c Z own n0 h0 ws T' h' cells' slots' → Ext h h' → KGo p e below K T' m pc' Ls (.ref a :: st)) : KGo p e below K T m pc Ls st := by
  subst hp hc hs
  obtain ⟨s', Lo, X, ⟨vm, k0, rfl, hS, hk0⟩, hZ, hown, eT, r1, r2, r3⟩ := P
  obtain ⟨a, T', h', k1, X', e', E, hS', hk1, hZ', hown', stp⟩ := ldcS X C.1 hZ hown w wS eT hS hk0 (g := mkF m pc Ls st) rfl (hb C.cdE hd) hn hbig hc' hs'
  exact (k' T' h' a ⟨s.setVm T'.vm, Lo, X', ⟨T'.vm, k1, rfl, hS', hk1⟩, hZ', hown', e', Nat.le_trans r1 E.1, r2, r3.ext E⟩ E).step stp
theorem k_newpE {aty : ArrayType} {ad : String} {z : Int32} {N cap : Nat} (C : KCx tbl nm cod ml ret p meth c Z a0) (P : KPos wd p l e R s m args below meth c Z own n0 h0 ws T h cells slots) (w : (Jvm.Cond.arrayClass (newarray.typeOf aty)).before a0 Z = true) (had : "[" ++ (newarray.typeOf aty).toString = ad) (hd : decode cod pc = .ok (.newarray aty, 2)) (hN : z.toInt = (N : Int)) (hcap : N ≤ cap) (hb8 : cap * 8 ≤ 536870912)
    {cells' slots' : Nat} (hc : cells + 1 = cells') (hs : slots + cap = slots') (hc' : cells' ≤ R.cells) (hs' : slots' ≤ R.slots) {pc' : Nat} (hp : pc + 2 = pc')
    (k' : ∀ T' h' a k, KPos wd p l e R s m args below meth c Z own n0 h0 ws T' h' cells' slots' → h.size = a → n0 ≤ a → h0.size ≤ a → Ext h h' → KVA Z h' a k (newarray.typeOf aty) N (fun _ => defaultValue (newarray.typeOf aty)) → Exa Z h' a ad → KGo p e below K T' m pc' Ls (.ref a :: st)) : KGo p e below K T m pc Ls (.int z :: st) := by
  subst hp hc hs
  obtain ⟨s', Lo, X, B, hZ, hown, eT, r1, r2, r3⟩ := P
  have e0 : ¬ z < 0 := by rw [Int32.lt_iff_toInt_lt]; have : (0 : Int32).toInt = 0 := rfl; omega
  have e1 : z.toNatClampNeg ≤ cap := by simp only [Int32.toNatClampNeg]; omega
  obtain ⟨T', h', kA, X', e', E, A, Ex, stp⟩ := newPE X C.1 hZ w eT (g := mkF m pc Ls (.int z :: st)) rfl (hb C.cdE hd) rfl e0 e1 hb8 hc' hs' had
  exact (k' T' h' _ kA ⟨s', _, X', B.mono E.1, hZ, hown, e', Nat.le_trans r1 E.1, r2, r3.ext E⟩ rfl r1 r3.1 E (KVA.new A hN) Ex).step stp
/-- an array's clone: its own, like it -/
theorem k_clone {ad : String} {index W N cap : Nat} {k : ClassId} {ty : FieldType} {f : Nat → Value} (C : KCx tbl nm cod ml ret p meth c Z a0) (P : KPos wd p l e R s m args below meth c Z own n0 h0 ws T h cells slots)
    (w1 : (Cond.methodLink own index ⟨ad, "clone", "()Ljava/lang/Object;"⟩).before a0 Z = true) (w2 : (Cond.sameMethod ad "java/lang/Object" "clone" "()Ljava/lang/Object;").before a0 Z = true) (w3 : (Cond.native ⟨"java/lang/Object", "clone", "()Ljava/lang/Object;"⟩).before a0 Z = true)
    (w4 : (Cond.instanceMethod ⟨"java/lang/Object", "clone", "()Ljava/lang/Object;"⟩).before a0 Z = true) (w5 : (Cond.selects ad ⟨ad, "clone", "()Ljava/lang/Object;"⟩ ⟨"java/lang/Object", "clone", "()Ljava/lang/Object;"⟩).before a0 Z = true) (w6 : (Cond.castable ad "java/lang/Cloneable").before a0 Z = true)
    (V : KVA Z h a k ty N f) (G : ∀ i, i < N → fits ty (f i) = true) (Ex : Exa Z h a ad) (hd : decode cod pc = .ok (.invokevirtual index, 3)) (hsz : Ls.size = ml) (hW : (st.map fun v => v.category).sum ≤ W) (hf : 1 ≤ R.frames) (hl : W + 14 ≤ R.locals) (hcap : N ≤ cap)
    {cells' slots' : Nat} (hc : cells + 1 = cells') (hs : slots + cap = slots') (hc' : cells' ≤ R.cells) (hs' : slots' ≤ R.slots) {pc' : Nat} (hp : pc + 3 = pc')
    (k' : ∀ T' h' b, KPos wd p l e R s m args below meth c Z own n0 h0 ws T' h' cells' slots' → h.size = b → n0 ≤ b → h0.size ≤ b → Ext h h' → KVA Z h' b k ty N f → Exa Z h' b ad → KGo p e below K T' m pc' Ls (.ref b :: st)) : KGo p e below K T m pc Ls (.ref a :: st) := by
  subst hp hc hs
  obtain ⟨s', Lo, X, B, hZ, hown, eT, r1, r2, r3⟩ := P
  obtain ⟨cl, A, q1, q2, q3, q4⟩ := V
  have FC : FitC Z cl := fitC_of A fun i hi v hv => by rw [q4 i (q2 ▸ hi)] at hv; cases hv; exact G i (q2 ▸ hi)
  obtain ⟨T', h', X', e', E, A', E', stp⟩ := cloneA X C.1 hZ hown w1 w2 w3 w4 w5 w6 eT A Ex FC (g := mkF m pc Ls (.ref a :: st)) rfl (hsz.trans C.mlE.symm) rfl (hb C.cdE hd) hf (by show 2 * 0 + _ ≤ _; rw [Nat.mul_zero, Nat.zero_add]; exact hW) hl (by rw [q2]; exact hcap) hc' hs'
  exact (k' T' h' _ ⟨s', _, X', B.mono E.1, hZ, hown, e', Nat.le_trans r1 E.1, r2, r3.ext E⟩ rfl r1 r3.1 E ⟨_, A', q1, q2, q3, q4⟩ E').step stp
theorem KVA.arv {k : ClassId} {ty : FieldType} {N : Nat} {f : Nat → Value} {z : Int32} (V : KVA Z h a k ty N f) (hz : z.toInt = (N : Int)) (G : ∀ i, i < N → fits ty (f i) = true) (dv : Value) : Arv Z h a k ty z ((List.range N).map f) dv := by
  obtain ⟨cl, A, q1, q2, q3, q4⟩ := V
  have e : z.toNatClampNeg = N := by simp only [Int32.toNatClampNeg]; omega
  have gd : ∀ i, i < N → ((List.range N).map f).getD i dv = f i := fun i hi => by simp [List.getD_eq_getElem?_getD, hi]
  refine ⟨cl, A, q1, by rw [q2, e], by rw [Int32.lt_iff_toInt_lt]; have : (0 : Int32).toInt = 0 := rfl; omega, fun i hi => ?_, fun i hi => ?_⟩
  · rw [gd i (q2 ▸ hi)]; exact q4 i (q2 ▸ hi)
  · rw [gd i (q2 ▸ hi)]; exact G i (q2 ▸ hi)
theorem KVA.of_arv {k : ClassId} {ty : FieldType} {N : Nat} {f : Nat → Value} {z : Int32} {vs : List Value} {dv : Value} (V : Arv Z h a k ty z vs dv) (hz : z.toInt = (N : Int)) (q : ∀ i, i < N → vs.getD i dv = f i) : KVA Z h a k ty N f := by
  obtain ⟨cl, A, q1, q2, q3, q4, -⟩ := V
  have e : z.toNatClampNeg = N := by simp only [Int32.toNatClampNeg]; omega
  have := Int32.toInt_lt z
  exact ⟨cl, A, q1, by rw [q2, e], by omega, fun i hi => by rw [← q i hi]; exact q4 i (by rw [q2, e]; exact hi)⟩
/-- System.arraycopy between arrays of one primitive kind -/
theorem k_acopy {index W N N' S D n : Nat} {k k1 : ClassId} {ty : FieldType} {f f' g' : Nat → Value} {sp dp nn : Int32} (C : KCx tbl nm cod ml ret p meth c Z a0) (P : KPos wd p l e R s m args below meth c Z own n0 h0 ws T h cells slots)
    (w1 : (Cond.methodLink own index Jvm.Stand.acN).before a0 Z = true) (w2 : (Cond.native Jvm.Stand.acN).before a0 Z = true) (w3 : (Cond.static Jvm.Stand.acN).before a0 Z = true) (w4 : (Cond.initialized "java/lang/System").before a0 Z = true)
    (A : KVA Z h a k ty N f) (B : KVA Z h b k1 ty N' f') (hty : refKind ty = false) (GA : ∀ i, i < N → fits ty (f i) = true) (GB : ∀ i, i < N' → fits ty (f' i) = true) (hS : sp.toInt = (S : Int)) (hD : dp.toInt = (D : Int)) (hn : nn.toInt = (n : Int)) (h4 : S + n ≤ N) (h5 : D + n ≤ N')
    (hg : ∀ i, i < N' → (if D ≤ i ∧ i < D + n then f (S + (i - D)) else f' i) = g' i) (hd : decode cod pc = .ok (.invokestatic index, 3)) (hsz : Ls.size = ml) (hW : (st.map fun v => v.category).sum ≤ W) (hf : 1 ≤ R.frames) (hlo : W + (nativeFrameWords "java/lang/System" "arraycopy" 5 + 11) ≤ R.locals) (hge : n0 ≤ b) (hwb : b ∈ ws ∨ h0.size ≤ b) {pc' : Nat} (hp : pc + 3 = pc')
    (k' : ∀ T' h', KPos wd p l e R s m args below meth c Z own n0 h0 ws T' h' cells slots → Keep h h' [b] → KVA Z h' b k1 ty N' g' → KGo p e below K T' m pc' Ls st) : KGo p e below K T m pc Ls (.int nn :: .int dp :: .ref b :: .int sp :: .ref a :: st) := by
  subst hp
  obtain ⟨s', Lo, X, Bs, hZ, hown, eT, r1, r2, r3⟩ := P
  have nat : ∀ {x : Int32} {M : Nat}, x.toInt = (M : Int) → ¬ x < 0 ∧ x.toNatClampNeg = M := fun {x M} q => ⟨by rw [Int32.lt_iff_toInt_lt]; have : (0 : Int32).toInt = 0 := rfl; omega, by simp only [Int32.toNatClampNeg]; omega⟩
  have zN : ∀ {M : Nat}, M < 2 ^ 31 → (Int32.ofNat M).toInt = (M : Int) := fun {M} q => by rw [Int32.toInt_ofNat_of_lt q]
  have bN : N < 2 ^ 31 := by obtain ⟨_, _, _, _, q, _⟩ := A; exact q
  have bN' : N' < 2 ^ 31 := by obtain ⟨_, _, _, _, q, _⟩ := B; exact q
  have e1 := nat hS; have e2 := nat hD; have e3 := nat hn; have e4 := nat (zN bN); have e5 := nat (zN bN')
  obtain ⟨T', h', L', X', e', F', Kp, V', stp⟩ := cpA X C.1 hZ hown w1 w2 w3 w4 eT (A.arv (zN bN) GA .null) (B.arv (zN bN') GB .null) (Or.inl ⟨rfl, hty⟩) e1.1 e2.1 e3.1 (by rw [e1.2, e3.2, e4.2]; exact h4) (by rw [e2.2, e3.2, e5.2]; exact h5) rfl (by rw [e2.2, e3.2]; simpa using h5) r2 hge (g := mkF m pc Ls (.int nn :: .int dp :: .ref b :: .int sp :: .ref a :: st)) rfl (hsz.trans C.mlE.symm) rfl (hb C.cdE hd) hf (by show 2 * 0 + _ ≤ _; rw [Nat.mul_zero, Nat.zero_add]; exact hW) hlo
  refine (k' T' h' ⟨s', _, X', Bs.mono Kp.1, hZ, hown, e', Nat.le_trans r1 Kp.1, F', r3.trans Kp (by intro x hx; rw [List.mem_singleton] at hx; subst hx; exact hwb)⟩ Kp (KVA.of_arv V' (zN bN') fun i hi => ?_)).step stp
  rw [← hg i hi, e1.2, e2.2, e3.2]
  by_cases q : D ≤ i ∧ i < D + n
  · rw [if_pos q, List.getD_eq_getElem?_getD, List.append_assoc, List.getElem?_append_right (by simp; omega), List.getElem?_append_left (by simp; omega)]
    simp only [List.length_take, List.length_map, List.length_range, Nat.min_eq_left (show D ≤ N' by omega)]
    rw [List.getElem?_map, List.getElem?_range (by omega)]
    simp only [Option.map_some, Option.getD_some, List.getD_eq_getElem?_getD]
    rw [List.getElem?_map, List.getElem?_range (by omega)]; rfl
  · rw [if_neg q, List.getD_eq_getElem?_getD, List.append_assoc]
    by_cases u : i < D
    · rw [List.getElem?_append_left (by simp; omega), List.getElem?_take_of_lt u, List.getElem?_map, List.getElem?_range hi]; rfl
    · rw [List.getElem?_append_right (by simp; omega), List.getElem?_append_right (by simp; omega)]
      simp only [List.length_take, List.length_map, List.length_range, Nat.min_eq_left (show D ≤ N' by omega), List.getElem?_drop]
      rw [show D + n + (i - D - n) = i by omega, List.getElem?_map, List.getElem?_range hi]; rfl
theorem k_selP {y : MethodName} {kk : Nat} (wi : (Jvm.Cond.instantiable y.cls kk).before a0 Z = true) (wp : (Jvm.Cond.privateMethod y).before a0 Z = true) (w2 : (Jvm.Cond.instanceMethod y).before a0 Z = true) (hy : y.cls ≠ "java/lang/invoke/MethodHandle" ∧ y.cls ≠ "java/lang/invoke/VarHandle") : (Jvm.Cond.selects y.cls y y).before a0 Z = true := by
  obtain ⟨c, k, h1, h2, -, h3, -⟩ := Cond.instantiable_spec wi
  exact selects_self_of_private h1 h2 (by simp at h3; exact h3.1) (Cond.privateMethod_at wp) w2 hy
theorem KCt.wide {y : MethodName} {rm : Room} {as : Array Value} {Q : Option Value → Heap → Prop} {ws' : List Addr} (k : KCt wd l y cod ml ret rm Z n0 h0 as ws Q) (hs : ∀ x ∈ ws, x ∈ ws') : KCt wd l y cod ml ret rm Z n0 h0 as ws' Q := by
  intro wsc p e h1 h2 h3 s m args below h4 h5 h6 h7
  obtain ⟨n, o, g1, g2, g3, v, L, g4, ⟨g5, g6, g7⟩, g8⟩ := k wsc p e h1 h2 h3 s m args below h4 h5 h6 h7
  exact ⟨n, o, g1, g2, g3, v, L, g4, ⟨g5, ⟨g6.1, fun x c q r => g6.2.1 x c q fun u => r (hs x u), g6.2.2⟩, g7⟩, g8⟩
theorem KVA.neT {k k1 : ClassId} {ty ty1 : FieldType} {N N1 : Nat} {f f1 : Nat → Value} (F : KVA Z h a k ty N f) (G : KVA Z h b k1 ty1 N1 f1) (hne : ty ≠ ty1) : a ≠ b := fun e => by
  subst e
  obtain ⟨c, A, -⟩ := F; obtain ⟨c1, A1, -⟩ := G
  cases A.1.symm.trans A1.1
  obtain ⟨-, k, hk, comp, hkind⟩ := A.2.1
  obtain ⟨-, k', hk', comp', hkind'⟩ := A1.2.1
  cases hk.symm.trans hk'
  rw [hkind] at hkind'; cases hkind'; exact hne rfl
/-- the ways from here to one place, made one (the heap unturned) -/
theorem k_join {pc' : Nat} {Ls' : Array Slot} {st' : List Value} (P : KPos wd p l e R s m args below meth c Z own n0 h0 ws T h cells slots)
    (f : (∀ T', KPos wd p l e R s m args below meth c Z own n0 h0 ws T' h cells slots → KGo p e below K T' m pc' Ls' st') → KGo p e below K T m pc Ls st)
    (k' : ∀ T', KPos wd p l e R s m args below meth c Z own n0 h0 ws T' h cells slots → KGo p e below K T' m pc' Ls' st') : KGo p e below K T m pc Ls st := f k'
theorem k_exaNs {Cn : String} (E : Exa Z h a Cn) : ∀ cell : Cell, h[a]? = some cell → cell.vm.isStatics = false := fun cell q => by
  obtain ⟨c', h1, h2⟩ := E.cell
  cases q.symm.trans h1
  cases e : cell.vm <;> first | rfl | exact absurd e (h2 _)
theorem KOb.ns {Cn : String} {lay : List (String × String × String)} {vs : List Value} (F : KOb Z h a Cn lay vs) : ∀ cell : Cell, h[a]? = some cell → cell.vm.isStatics = false := k_exaNs F.exa
theorem KVA.ns {k : ClassId} {ty : FieldType} {N : Nat} {f : Nat → Value} (F : KVA Z h a k ty N f) : ∀ cell : Cell, h[a]? = some cell → cell.vm.isStatics = false := fun cell q => by
  obtain ⟨c', A, -⟩ := F
  cases q.symm.trans A.1
  have h2 := A.2.1.1
  cases e : cell.vm <;> first | rfl | exact absurd e (h2 _)
theorem k_ns0 : ∀ x ∈ ([] : List Addr), ∀ cell : Cell, h[x]? = some cell → cell.vm.isStatics = false := fun _ q => nomatch q
theorem k_nsS {l' : List Addr} (q : ∀ cell : Cell, h[a]? = some cell → cell.vm.isStatics = false) (r : ∀ x ∈ l', ∀ cell : Cell, h[x]? = some cell → cell.vm.isStatics = false) : ∀ x ∈ a :: l', ∀ cell : Cell, h[x]? = some cell → cell.vm.isStatics = false := fun x hx => by
  rcases List.mem_cons.mp hx with rfl | u
  · exact q
  · exact r x u
theorem k_staKeep {Cn n d : String} {v : Value} {ws' : List Addr} (F : Sta Z h Cn n d v) (K' : Keep h h' ws') (q : ∀ x ∈ ws', ∀ cell : Cell, h[x]? = some cell → cell.vm.isStatics = false) : Sta Z h' Cn n d v := by
  obtain ⟨cf, i, k, f, st, cell, h1, h2, h3, h4, h5, h6, h7⟩ := F
  exact ⟨cf, i, k, f, st, cell, h1, h2, h3, h4, K'.2.1 st cell h5 (fun u => by have := q st u cell h5; rw [this] at h6; cases h6), h6, h7⟩
/-! ### more: Class constants, getClass, grids, switches, instanceof's no, copies of references, nest mates' constructors, boolean arrays -/
theorem k_ldcK {Cn : String} {index : Nat} {mr : Addr} (C : KCx tbl nm cod ml ret p meth c Z a0) (P : KPos wd p l e R s m args below meth c Z own n0 h0 ws T h cells slots) (w : (Jvm.Cond.classLink own index Cn).before a0 Z = true) (M : Mir Z Cn mr) (hd : decode cod pc = .ok (.ldc index, 2)) {pc' : Nat} (hp : pc + 2 = pc') (k' : ∀ T', KPos wd p l e R s m args below meth c Z own n0 h0 ws T' h cells slots → KGo p e below K T' m pc' Ls (.ref mr :: st)) : KGo p e below K T m pc Ls st := by
  subst hp
  obtain ⟨s', L, X, B, hZ, hown, eT, r1⟩ := P
  obtain ⟨cc, kc, m1, m2, m3, -⟩ := M
  obtain ⟨k1, q, ek⟩ := hZ.alike.2.2 _ _ m2
  have hf : s'.vm.findClass Cn = some cc := by rw [hZ.alike.findClass]; exact m1
  have hm : k1.mirror = some mr := by rw [ek]; exact m3
  obtain ⟨vm', X', stp⟩ := X.ldcMirror C.1 hown (mvT hZ w) (a := mr) (by simp [Term.eval, hf, q, hm]) (g := mkF m pc Ls st) rfl (hb C.cdE hd)
  exact (k' _ ⟨s', L, X', B, hZ, hown, eT, r1⟩).step stp
theorem k_gcls {Cn : String} {index W : Nat} {mr : Addr} (C : KCx tbl nm cod ml ret p meth c Z a0) (P : KPos wd p l e R s m args below meth c Z own n0 h0 ws T h cells slots)
    (w1 : (Jvm.Cond.methodLink own index ⟨"java/lang/Object", "getClass", "()Ljava/lang/Class;"⟩).before a0 Z = true) (w2 : (Jvm.Cond.declares ⟨"java/lang/Object", "getClass", "()Ljava/lang/Class;"⟩).before a0 Z = true) (w3 : (Jvm.Cond.noSuperclass "java/lang/Object").before a0 Z = true) (w4 : (Jvm.Cond.selects Cn ⟨"java/lang/Object", "getClass", "()Ljava/lang/Class;"⟩ ⟨"java/lang/Object", "getClass", "()Ljava/lang/Class;"⟩).before a0 Z = true)
    (w5 : (Jvm.Cond.instanceMethod ⟨"java/lang/Object", "getClass", "()Ljava/lang/Class;"⟩).before a0 Z = true) (w6 : (Jvm.Cond.native ⟨"java/lang/Object", "getClass", "()Ljava/lang/Class;"⟩).before a0 Z = true) (E : Exa Z h a Cn) (M : Mir Z Cn mr) (hd : decode cod pc = .ok (.invokevirtual index, 3)) (hsz : Ls.size = ml) (hW : (st.map fun v => v.category).sum ≤ W) (hf : 1 ≤ R.frames) (hl : W + (nativeFrameWords "java/lang/Object" "getClass" 1 + 11) ≤ R.locals) {pc' : Nat} (hp : pc + 3 = pc')
    (k' : ∀ T', KPos wd p l e R s m args below meth c Z own n0 h0 ws T' h cells slots → KGo p e below K T' m pc' Ls (.ref mr :: st)) : KGo p e below K T m pc Ls (.ref a :: st) := by
  subst hp
  obtain ⟨s', L, X, B, hZ, hown, eT, r1⟩ := P
  obtain ⟨T', X', e', stp⟩ := gcls X C.1 hZ hown w1 w2 w3 w4 w5 w6 eT E M (g := mkF m pc Ls (.ref a :: st)) rfl (hsz.trans C.mlE.symm) rfl (hb C.cdE hd) hf (by show 2 * 0 + _ ≤ _; rw [Nat.mul_zero, Nat.zero_add]; exact hW) hl
  exact (k' T' ⟨s', L, X', B, hZ, hown, e', r1⟩).step stp
/-- multianewarray: two rows of M places -/
theorem k_grid2 {Cn ad : String} {ty : FieldType} {index M : Nat} {z : Int32} (C : KCx tbl nm cod ml ret p meth c Z a0) (P : KPos wd p l e R s m args below meth c Z own n0 h0 ws T h cells slots) (hC : (FieldType.array ty).toString = Cn) (had : "[" ++ Cn = ad) (w1 : (Jvm.Cond.classLink own index ad).before a0 Z = true) (w2 : (Jvm.Cond.arrayOver (.array ty)).before a0 Z = true) (w3 : (Jvm.Cond.arrayClass ty).before a0 Z = true) (hd : decode cod pc = .ok (.multianewarray index 2, 4))
    (hM : z.toInt = (M : Int)) (hb8 : M * 8 ≤ 536870912) (hdf : fits ty (defaultValue ty) = true) (hdd : (defaultValue ty).isDefault = true) {cells' slots' : Nat} (hc : cells + 3 = cells') (hs : slots + (2 + 2 * M) = slots') (hc' : cells' ≤ R.cells) (hs' : slots' ≤ R.slots) {pc' : Nat} (hp : pc + 4 = pc')
    (k' : ∀ T' h' b b0 b1 kA kc, KPos wd p l e R s m args below meth c Z own n0 h0 ws T' h' cells' slots' → h.size = b → b + 1 = b0 → b + 2 = b1 → n0 ≤ b → h0.size ≤ b → Ext h h' → KVA Z h' b kA (.array ty) 2 (fun j => if j = 0 then .ref b0 else .ref b1) → KVA Z h' b0 kc ty M (fun _ => defaultValue ty) → Exa Z h' b0 Cn → KVA Z h' b1 kc ty M (fun _ => defaultValue ty) → Exa Z h' b1 Cn → KGo p e below K T' m pc' Ls (.ref b :: st)) : KGo p e below K T m pc Ls (.int z :: .int 2 :: st) := by
  subst hp hc hs
  obtain ⟨s', Lo, X, B, hZ, hown, eT, r1, r2, r3⟩ := P
  have e0 : ¬ z < 0 := by rw [Int32.lt_iff_toInt_lt]; have : (0 : Int32).toInt = 0 := rfl; omega
  have e1 : z.toNatClampNeg = M := by simp only [Int32.toNatClampNeg]; omega
  obtain ⟨T', h', cA, comp, X', e', E, A, -, -, I, stp⟩ := gridM X C.1 hZ hown hC had w1 w2 w3 eT (g := mkF m pc Ls (.int z :: .int 2 :: st)) rfl (hb C.cdE hd) rfl (by decide) e0 (N := 2) rfl rfl (cap := M) (by omega) hb8 (by decide) hdf hdd hc' hs'
  have I0 := I 0 (h.size + 1) rfl
  have I1 := I 1 (h.size + 2) rfl
  exact (k' T' h' _ _ _ cA comp ⟨s', _, X', B.mono E.1, hZ, hown, e', Nat.le_trans r1 E.1, r2, r3.ext E⟩ rfl rfl rfl r1 r3.1 E (KVA.of_arv A rfl (fun i hi => by match i, hi with | 0, _ => rfl | 1, _ => rfl)) (KVA.new I0.1 hM) I0.2 (KVA.new I1.1 hM) I1.2).step stp
theorem k_tswOut {dflt low high : Int} {offs : Array Int} {len : Nat} {i : Int32} (C : KCx tbl nm cod ml ret p meth c Z a0) (P : KPos wd p l e R s m args below meth c Z own n0 h0 ws T h cells slots) (hd : decode cod pc = .ok (.tableswitch dflt low high offs, len)) (hout : i.toInt < low ∨ i.toInt > high) (ho : 0 ≤ (pc : Int) + dflt) {pc' : Nat} (hp : ((pc : Int) + dflt).toNat = pc') (k' : KGo p e below K T m pc' Ls st) : KGo p e below K T m pc Ls (.int i :: st) :=
  k'.step fun t q => XS.tswOut P.here C.1 rfl rfl (hb C.cdE hd) rfl hout ho hp q
theorem k_instNo {Kn Cn : String} {index : Nat} (C : KCx tbl nm cod ml ret p meth c Z a0) (P : KPos wd p l e R s m args below meth c Z own n0 h0 ws T h cells slots) (w : (Jvm.Cond.classLink own index Kn).before a0 Z = true) (E : Exa Z h a Cn) (F : ∃ c t, Z.vm.findClass Cn = some c ∧ Z.vm.findClass Kn = some t ∧ Z.vm.assignable c t = false) (hd : decode cod pc = .ok (.instanceof index, 3)) {pc' : Nat} (hp : pc + 3 = pc') (k' : ∀ T', KPos wd p l e R s m args below meth c Z own n0 h0 ws T' h cells slots → KGo p e below K T' m pc' Ls (.int 0 :: st)) : KGo p e below K T m pc Ls (.ref a :: st) := by
  subst hp
  obtain ⟨s', L, X, B, hZ, hown, eT, r1⟩ := P
  obtain ⟨T', X', e', stp⟩ := instNo X C.1 hZ hown w eT E F (g := mkF m pc Ls (.ref a :: st)) rfl rfl (hb C.cdE hd)
  exact (k' T' ⟨s', L, X', B, hZ, hown, e', r1⟩).step stp
/-- System.arraycopy of a whole array of references onto the start of another -/
theorem k_acopyR {index W N N' n : Nat} {k k1 : ClassId} {ty : FieldType} {f f' g' : Nat → Value} {nn : Int32} (C : KCx tbl nm cod ml ret p meth c Z a0) (P : KPos wd p l e R s m args below meth c Z own n0 h0 ws T h cells slots)
    (w1 : (Cond.methodLink own index Jvm.Stand.acN).before a0 Z = true) (w2 : (Cond.native Jvm.Stand.acN).before a0 Z = true) (w3 : (Cond.static Jvm.Stand.acN).before a0 Z = true) (w4 : (Cond.initialized "java/lang/System").before a0 Z = true)
    (A : KVA Z h a k ty N f) (B : KVA Z h b k1 ty N' f') (hty : refKind ty = true) (GA : ∀ i, i < N → fits ty (f i) = true) (GB : ∀ i, i < N' → fits ty (f' i) = true) (hst : ∀ i, i < n → Sto Z h b (f i)) (hn : nn.toInt = (n : Int)) (h4 : n ≤ N) (h5 : n ≤ N')
    (hg : ∀ i, i < N' → (if i < n then f i else f' i) = g' i) (hd : decode cod pc = .ok (.invokestatic index, 3)) (hsz : Ls.size = ml) (hW : (st.map fun v => v.category).sum ≤ W) (hf : 1 ≤ R.frames) (hlo : W + (nativeFrameWords "java/lang/System" "arraycopy" 5 + 11) ≤ R.locals) (hge : n0 ≤ b) (hwb : b ∈ ws ∨ h0.size ≤ b) {pc' : Nat} (hp : pc + 3 = pc')
    (k' : ∀ T' h', KPos wd p l e R s m args below meth c Z own n0 h0 ws T' h' cells slots → Keep h h' [b] → KVA Z h' b k1 ty N' g' → KGo p e below K T' m pc' Ls st) : KGo p e below K T m pc Ls (.int nn :: .int 0 :: .ref b :: .int 0 :: .ref a :: st) := by
  subst hp
  obtain ⟨s', Lo, X, Bs, hZ, hown, eT, r1, r2, r3⟩ := P
  have nat : ∀ {x : Int32} {M : Nat}, x.toInt = (M : Int) → ¬ x < 0 ∧ x.toNatClampNeg = M := fun {x M} q => ⟨by rw [Int32.lt_iff_toInt_lt]; have : (0 : Int32).toInt = 0 := rfl; omega, by simp only [Int32.toNatClampNeg]; omega⟩
  have zN : ∀ {M : Nat}, M < 2 ^ 31 → (Int32.ofNat M).toInt = (M : Int) := fun {M} q => by rw [Int32.toInt_ofNat_of_lt q]
  have bN : N < 2 ^ 31 := by obtain ⟨_, _, _, _, q, _⟩ := A; exact q
  have bN' : N' < 2 ^ 31 := by obtain ⟨_, _, _, _, q, _⟩ := B; exact q
  have e1 := nat (x := 0) (M := 0) rfl; have e3 := nat hn; have e4 := nat (zN bN); have e5 := nat (zN bN')
  have gd : ∀ i, i < n → ((List.range N).map f).getD i .null = f i := fun i hi => by simp [List.getD_eq_getElem?_getD, show i < N by omega]
  have eus : (List.range nn.toNatClampNeg).map (fun i => ((List.range N).map f).getD ((0 : Int32).toNatClampNeg + i) .null) = (List.range n).map f := by
    rw [e3.2, e1.2]; exact List.map_congr_left fun i hi => by rw [Nat.zero_add]; exact gd i (List.mem_range.mp hi)
  have sl : ∀ us : List Value, (∀ v ∈ us, Sto Z h b v) → StoL Z h b us := fun us => by
    induction us with
    | nil => exact fun _ => trivial
    | cons v r ih => exact fun q => ⟨q v (by simp), ih fun w hw => q w (by simp [hw])⟩
  obtain ⟨T', h', L', X', e', F', Kp, V', stp⟩ := cpA X C.1 hZ hown w1 w2 w3 w4 eT (A.arv (zN bN) GA .null) (B.arv (zN bN') GB .null) (Or.inr ⟨hty, hty, sl ((List.range n).map f) (fun v hv => by obtain ⟨i, hi, rfl⟩ := List.mem_map.mp hv; exact hst i (List.mem_range.mp hi))⟩) e1.1 e1.1 e3.1 (by rw [e1.2, e3.2, e4.2]; omega) (by rw [e1.2, e3.2, e5.2]; omega) eus.symm (by rw [e1.2, e3.2]; simpa using h5) r2 hge (g := mkF m pc Ls (.int nn :: .int 0 :: .ref b :: .int 0 :: .ref a :: st)) rfl (hsz.trans C.mlE.symm) rfl (hb C.cdE hd) hf (by show 2 * 0 + _ ≤ _; rw [Nat.mul_zero, Nat.zero_add]; exact hW) hlo
  refine (k' T' h' ⟨s', _, X', Bs.mono Kp.1, hZ, hown, e', Nat.le_trans r1 Kp.1, F', r3.trans Kp (by intro x hx; rw [List.mem_singleton] at hx; subst hx; exact hwb)⟩ Kp (KVA.of_arv V' (zN bN') fun i hi => ?_)).step stp
  rw [← hg i hi, e1.2, e3.2]
  simp only [List.take_zero, List.nil_append, Nat.zero_add]
  rw [List.getD_eq_getElem?_getD]
  by_cases q : i < n
  · rw [if_pos q, List.getElem?_append_left (by simpa using q), List.getElem?_map, List.getElem?_range q]; rfl
  · rw [if_neg q, List.getElem?_append_right (by simp; omega)]
    simp only [List.length_map, List.length_range, List.getElem?_drop]
    rw [show n + (i - n) = i by omega, List.getElem?_map, List.getElem?_range hi]; rfl
theorem k_callNN {y : MethodName} {host : String} {index W maxL : Nat} {bytes : ByteArray} {rm : Room} {as : Array Value} {ws' : List Addr} {Q : Option Value → Heap → Prop} (C : KCx tbl nm cod ml ret p meth c Z a0) (P : KPos wd p l e R s m args below meth c Z own n0 h0 ws T h cells slots)
    (hy1 : y.name = "<init>") (w1 : (Jvm.Cond.methodLinkNest own index y host).before a0 Z = true) (w2 : (Jvm.Cond.instanceMethod y).before a0 Z = true) (w3 : (Jvm.Cond.code y bytes maxL none).before a0 Z = true) (w4 : (Jvm.Cond.initialized y.cls).before a0 Z = true) (hy : y.cls ≠ "java/lang/invoke/MethodHandle" ∧ y.cls ≠ "java/lang/invoke/VarHandle")
    (hM : KCt false l y bytes maxL none rm Z n0 h as ws' Q) (a : Addr) (argsL rest : List Value) (has : as = (.ref a :: argsL).toArray) (hlen : ∀ sig, parseMethodDescriptor y.desc = some sig → argsL.length = sig.parameters.length) (hst : st = argsL.reverse ++ .ref a :: rest) (hW : (rest.map fun v => v.category).sum ≤ W)
    (hd : decode cod pc = .ok (.invokespecial index, 3)) (hsz : Ls.size = ml) (hf : rm.frames + 1 ≤ R.frames) (hl : W + (maxL + 11) + rm.locals ≤ R.locals) {cells' slots' : Nat} (hc : cells + rm.cells = cells') (hs : slots + rm.slots = slots') (hc' : cells' ≤ R.cells) (hs' : slots' ≤ R.slots) (hws : ∀ x ∈ ws', x ∈ ws ∨ h0.size ≤ x) {pc' : Nat} (hp : pc + 3 = pc')
    (k' : ∀ T' h' v, KPos wd p l e R s m args below meth c Z own n0 h0 ws T' h' cells' slots' → Keep h h' ws' → Q v h' → KGo p e below K T' m pc' Ls (v.toList ++ rest)) : KGo p e below K T m pc Ls st := by
  subst hp hc hs has
  obtain ⟨s', L, X, B, hZ, hown, eT, r1, r2, r3⟩ := P
  obtain ⟨v, _, ⟨T', L', k1, n1⟩, -, X', ⟨Lc, ⟨q1, q2, q3⟩, l1, y1, z1⟩, stp⟩ := X.specialBackNest C.1 (y := y) hy1 hown (Cond.methodLinkNest_wide hZ w1 :) (mvT hZ w2) (mvT hZ w3) hy (backOf (W := W) (Q := fun v h' L => Fr n0 L ∧ Keep h h' ws' ∧ Q v h') hM.plain hZ w3 w4 hf hl) (g := mkF m pc Ls st) rfl (hsz.trans C.mlE.symm) (Steps.refl _) (a := a) (argsL := argsL) (rest := rest) hlen hst (by show 2 * 0 + _ ≤ _; rw [Nat.mul_zero, Nat.zero_add]; exact hW) (hb C.cdE hd) (fun _ _ => ⟨rfl, eT, hc', hs'⟩)
  dsimp only [Pt.U, Pt.locs, Pt.cells, Pt.slots] at X' l1 y1 z1 stp q2 q3
  subst l1 y1 z1
  exact (k' T' T'.heap v ⟨s', _, X', B.mono q2.1, hZ, hown, rfl, Nat.le_trans r1 q2.1, Fr.app r2 q1, r3.trans q2 hws⟩ q2 q3).step fun t q => stp.trans q
theorem k_baloadZ {k : ClassId} {N J : Nat} {f : Nat → Value} {j : Int32} {v : Value} (C : KCx tbl nm cod ml ret p meth c Z a0) (P : KPos wd p l e R s m args below meth c Z own n0 h0 ws T h cells slots) (V : KVA Z h a k .boolean N f) (hd : decode cod pc = .ok (.baload, 1)) (hj : j.toInt = (J : Int)) (hJ : J < N) (hv : f J = v) {pc' : Nat} (hp : pc + 1 = pc') (k' : KGo p e below K T m pc' Ls (v :: st)) : KGo p e below K T m pc Ls (.int j :: .ref a :: st) := by
  subst hp hv
  obtain ⟨s', L, X, B, hZ, hown, eT, r1⟩ := P
  obtain ⟨cl, A, -, S, hN, H⟩ := V
  obtain ⟨q1, q2⟩ := k_idx hj (S.symm ▸ hJ)
  exact k'.step fun t q => X.baloadBooleans C.1 (by rw [eT]; exact A.1) (State.isArrayOf_alike hZ.alike A.2.1) A.2.2 q1 (by rw [q2]; exact H J hJ) (g := mkF m pc Ls (.int j :: .ref a :: st)) rfl rfl (hb C.cdE hd) t q
theorem k_bastoreZ {k : ClassId} {N J : Nat} {f g' : Nat → Value} {j : Int32} {x : Int32} (C : KCx tbl nm cod ml ret p meth c Z a0) (P : KPos wd p l e R s m args below meth c Z own n0 h0 ws T h cells slots) (V : KVA Z h a k .boolean N f) (hd : decode cod pc = .ok (.bastore, 1)) (hj : j.toInt = (J : Int)) (hJ : J < N) (hg' : ∀ i, i < N → (if i = J then (.int (nar .boolean x) : Value) else f i) = g' i) (ha : n0 ≤ a) (hk : a ∈ ws ∨ h0.size ≤ a) {pc' : Nat} (hp : pc + 1 = pc') (k' : ∀ T' h', KPos wd p l e R s m args below meth c Z own n0 h0 ws T' h' cells slots → Wr h h' a J (.int (nar .boolean x)) → KVA Z h' a k .boolean N g' → KGo p e below K T' m pc' Ls st) : KGo p e below K T m pc Ls (.int x :: .int j :: .ref a :: st) := by
  subst hp
  obtain ⟨s', Lo, X, B, hZ, hown, eT, r1, r2, r3⟩ := P
  have V0 := V
  obtain ⟨cl, A, -, S, hN, H⟩ := V
  obtain ⟨q1, q2⟩ := k_idx hj (S.symm ▸ hJ)
  obtain ⟨T', h', X', e', W, stp⟩ := stZ X C.1 hZ eT A q1 (g := mkF m pc Ls (.int x :: .int j :: .ref a :: st)) rfl rfl (hb C.cdE hd)
  have W' := W
  rw [q2] at W'
  exact (k' T' h' ⟨s', _, X', B.mono (Nat.le_of_eq W.size.symm), hZ, hown, e', W.size ▸ r1, Fr.snoc X' r2 ha, r3.wr W hk⟩ W' (V0.set W' hg')).step stp
theorem k_newrE {Cn ad : String} {index : Nat} {z : Int32} {N cap : Nat} (C : KCx tbl nm cod ml ret p meth c Z a0) (P : KPos wd p l e R s m args below meth c Z own n0 h0 ws T h cells slots) (had : "[" ++ (FieldType.object Cn).toString = ad) (w : (Jvm.Cond.classLink own index Cn).before a0 Z = true) (w2 : (Jvm.Cond.arrayOver (.object Cn)).before a0 Z = true) (hd : decode cod pc = .ok (.anewarray index, 3)) (hN : z.toInt = (N : Int)) (hcap : N ≤ cap) (hb8 : cap * 8 ≤ 536870912)
    {cells' slots' : Nat} (hc : cells + 1 = cells') (hs : slots + cap = slots') (hc' : cells' ≤ R.cells) (hs' : slots' ≤ R.slots) {pc' : Nat} (hp : pc + 3 = pc')
    (k' : ∀ T' h' a k, KPos wd p l e R s m args below meth c Z own n0 h0 ws T' h' cells' slots' → h.size = a → n0 ≤ a → h0.size ≤ a → Ext h h' → KVA Z h' a k (.object Cn) N (fun _ => .null) → Exa Z h' a ad → Ovr Z k Cn → KGo p e below K T' m pc' Ls (.ref a :: st)) : KGo p e below K T m pc Ls (.int z :: st) := by
  subst hp hc hs
  obtain ⟨s', Lo, X, B, hZ, hown, eT, r1, r2, r3⟩ := P
  have e0 : ¬ z < 0 := by rw [Int32.lt_iff_toInt_lt]; have : (0 : Int32).toInt = 0 := rfl; omega
  have e1 : z.toNatClampNeg ≤ cap := by simp only [Int32.toNatClampNeg]; omega
  obtain ⟨T', h', kA, X', e', E, A, Ex, O, stp⟩ := newRE X C.1 hZ hown w w2 eT (g := mkF m pc Ls (.int z :: st)) rfl (hb C.cdE hd) rfl e0 e1 hb8 hc' hs' had
  exact (k' T' h' _ kA ⟨s', _, X', B.mono E.1, hZ, hown, e', Nat.le_trans r1 E.1, r2, r3.ext E⟩ rfl r1 r3.1 E (KVA.new A hN) Ex O).step stp
theorem k_rawL {index W : Nat} {x : UInt64} (C : KCx tbl nm cod ml ret p meth c Z a0) (P : KPos wd p l e R s m args below meth c Z own n0 h0 ws T h cells slots) (w1 : (Jvm.Cond.methodLink own index ⟨"java/lang/Double", "doubleToRawLongBits", "(D)J"⟩).before a0 Z = true) (w2 : (Jvm.Cond.native ⟨"java/lang/Double", "doubleToRawLongBits", "(D)J"⟩).before a0 Z = true) (w3 : (Jvm.Cond.static ⟨"java/lang/Double", "doubleToRawLongBits", "(D)J"⟩).before a0 Z = true) (w4 : (Jvm.Cond.initialized "java/lang/Double").before a0 Z = true)
    (hd : decode cod pc = .ok (.invokestatic index, 3)) (hsz : Ls.size = ml) (hW : (st.map fun v => v.category).sum ≤ W) (hf : 1 ≤ R.frames) (hl : W + (nativeFrameWords "java/lang/Double" "doubleToRawLongBits" 2 + 11) ≤ R.locals) {pc' : Nat} (hp : pc + 3 = pc') (k' : ∀ T', KPos wd p l e R s m args below meth c Z own n0 h0 ws T' h cells slots → KGo p e below K T' m pc' Ls (.long x.toInt64 :: st)) : KGo p e below K T m pc Ls (.double x :: st) := by
  subst hp
  obtain ⟨s', L, X, B, hZ, hown, eT, r1⟩ := P
  obtain ⟨vm', X', stp⟩ := X.doubleToRawLongBits C.1 hown (mvT hZ w1) (mvT hZ w2) (mvT hZ w3) (mvT hZ w4) (g := mkF m pc Ls (.double x :: st)) rfl (hsz.trans C.mlE.symm) rfl (hb C.cdE hd) hf (by show 2 * 0 + _ + _ ≤ _; rw [Nat.mul_zero, Nat.zero_add]; exact Nat.le_trans (Nat.add_le_add_right hW _) hl)
  exact (k' _ ⟨s', L, X', B, hZ, hown, eT, r1⟩).step stp
theorem k_dx2 {tb : Tables} [Ours tb] {e : Env} {below : List Frame} {T target : State} {m : MethodId} {c : Code} {g : JFrame} (h : At T m c below) (hx : tb.exec = Jvm.exec) (hg : g.method = m) {x y z : Value} {rest : List Value} (hd : decode c.code g.pc = .ok (.dup_x2, 1)) (hs : g.stack = x :: y :: z :: rest) (hc : x.category = 1) (hc1 : y.category = 1) (hc2 : z.category = 1)
    (hr : Steps tb e below (T.setTop { g with pc := g.pc + 1, stack := x :: y :: z :: x :: rest }) target) : Steps tb e below (T.setTop g) target := by
  subst hg
  jvm_step h [h.top, hx, hd, hs, hc, hc1, hc2]
  exact hr
theorem k_dupX2 (C : KCx tbl nm cod ml ret p meth c Z a0) (P : KPos wd p l e R s m args below meth c Z own n0 h0 ws T h cells slots) {x y z : Value} (hd : decode cod pc = .ok (.dup_x2, 1)) (hc : x.category = 1) (hc1 : y.category = 1) (hc2 : z.category = 1) {pc' : Nat} (hp : pc + 1 = pc') (k' : KGo p e below K T m pc' Ls (x :: y :: z :: x :: st)) : KGo p e below K T m pc Ls (x :: y :: z :: st) := by
  subst hp; exact k'.step fun t q => k_dx2 P.here C.1 rfl (hb C.cdE hd) rfl hc hc1 hc2 q
end Kit
end Jvm.OwnKit
namespace Jvm.OwnNum
theorem toInt {x : Int32} {n : Nat} (h : x.toBitVec.toNat = n) (hn : n < 2147483648) : x.toInt = (n : Int) := by
  show x.toBitVec.toInt = _
  rw [BitVec.toInt_eq_toNat_cond, if_pos (by omega), h]
theorem toNat {x : Int32} {n : Nat} (h : x.toInt = (n : Int)) : x.toBitVec.toNat = n := by
  have := x.toBitVec.isLt
  change x.toBitVec.toInt = _ at h
  rw [BitVec.toInt_eq_toNat_cond] at h
  split at h <;> omega
theorem small {x : Int32} {n : Nat} (h : x.toInt = (n : Int)) : n < 2147483648 := by have := Int32.toInt_lt x; omega
/-- x & m, m not negative -/
theorem mask (x m : Int32) {M : Nat} (hm : m.toInt = (M : Int)) : ∃ N : Nat, (x &&& m).toInt = (N : Int) ∧ N ≤ M := by
  have h1 := toNat hm
  have h2 : (x &&& m).toBitVec.toNat ≤ M := by rw [Int32.toBitVec_and, BitVec.toNat_and, h1]; exact Nat.and_le_right
  have h3 := small hm
  exact ⟨_, toInt rfl (by omega), h2⟩
theorem add {x y : Int32} {X Y : Nat} (hx : x.toInt = (X : Int)) (hy : y.toInt = (Y : Int)) (h : X + Y < 2147483648) : (x + y).toInt = ((X + Y : Nat) : Int) := by
  refine toInt ?_ h
  rw [Int32.toBitVec_add, BitVec.toNat_add, toNat hx, toNat hy]; omega
theorem rem {x y : Int32} {X Y : Nat} (hx : x.toInt = (X : Int)) (hy : y.toInt = (Y : Int)) (h : 0 < Y) : (x % y).toInt = ((X % Y : Nat) : Int) := by
  rw [(Jvm.RoadKit.c_irem x y Y hy).1 (by omega), hx]; rfl
theorem ne0 {y : Int32} {Y : Nat} (hy : y.toInt = (Y : Int)) (h : 0 < Y) : y ≠ 0 := fun e => by subst e; have : (0 : Int32).toInt = 0 := rfl; omega
theorem eq_iff {x y : Int32} {X Y : Nat} (hx : x.toInt = (X : Int)) (hy : y.toInt = (Y : Int)) : x = y ↔ X = Y := by
  rw [← Int32.toInt_inj, hx, hy]; omega
theorem lt_iff {x y : Int32} {X Y : Nat} (hx : x.toInt = (X : Int)) (hy : y.toInt = (Y : Int)) : x < y ↔ X < Y := by
  rw [Int32.lt_iff_toInt_lt, hx, hy]; omega
end Jvm.OwnNum

namespace Jvm.Pilot.@@N@@
open Jvm Jvm.ClassFile Sem Op Lib Jvm.Free Jvm.Stand Jvm.LawKit Jvm.RoadKit Jvm.OwnKit Bundle Jvm.Pilot.@@N@@.Jvm.D
theorem d1_0 : decode method_3_code 0 = .ok (.lload_n 0, 1) := by decide +kernel
theorem d1_1 : decode method_3_code 1 = .ok (.l2d, 1) := by decide +kernel
theorem d1_2 : decode method_3_code 2 = .ok (.dstore_n 3, 1) := by decide +kernel
theorem d1_3 : decode method_3_code 3 = .ok (.iload_n 2, 1) := by decide +kernel
theorem d1_4 : decode method_3_code 4 = .ok (.ifCond .eq 8, 3) := by decide +kernel
theorem d1_7 : decode method_3_code 7 = .ok (.dload_n 3, 1) := by decide +kernel
theorem d1_8 : decode method_3_code 8 = .ok (.dneg, 1) := by decide +kernel
theorem d1_9 : decode method_3_code 9 = .ok (.goto 4, 3) := by decide +kernel
theorem d1_12 : decode method_3_code 12 = .ok (.dload_n 3, 1) := by decide +kernel
theorem d1_13 : decode method_3_code 13 = .ok (.dreturn, 1) := by decide +kernel
theorem d2_0 : decode method_4_code 0 = .ok (.iload_n 2, 1) := by decide +kernel
theorem d2_1 : decode method_4_code 1 = .ok (.ifCond .eq 11, 3) := by decide +kernel
theorem d2_4 : decode method_4_code 4 = .ok (.ldc2_w 27, 3) := by decide +kernel
theorem d2_7 : decode method_4_code 7 = .ok (.lload_n 0, 1) := by decide +kernel
theorem d2_8 : decode method_4_code 8 = .ok (.lmul, 1) := by decide +kernel
theorem d2_9 : decode method_4_code 9 = .ok (.goto 10, 3) := by decide +kernel
theorem d2_12 : decode method_4_code 12 = .ok (.ldc2_w 27, 3) := by decide +kernel
theorem d2_15 : decode method_4_code 15 = .ok (.lload_n 0, 1) := by decide +kernel
theorem d2_16 : decode method_4_code 16 = .ok (.lmul, 1) := by decide +kernel
theorem d2_17 : decode method_4_code 17 = .ok (.lconst 1, 1) := by decide +kernel
theorem d2_18 : decode method_4_code 18 = .ok (.ladd, 1) := by decide +kernel
theorem d2_19 : decode method_4_code 19 = .ok (.lreturn, 1) := by decide +kernel
theorem d3_0 : decode method_5_code 0 = .ok (.lload_n 0, 1) := by decide +kernel
theorem d3_1 : decode method_5_code 1 = .ok (.lload_n 3, 1) := by decide +kernel
theorem d3_2 : decode method_5_code 2 = .ok (.lcmp, 1) := by decide +kernel
theorem d3_3 : decode method_5_code 3 = .ok (.ifCond .lt 15, 3) := by decide +kernel
theorem d3_6 : decode method_5_code 6 = .ok (.lload_n 0, 1) := by decide +kernel
theorem d3_7 : decode method_5_code 7 = .ok (.lload_n 3, 1) := by decide +kernel
theorem d3_8 : decode method_5_code 8 = .ok (.lcmp, 1) := by decide +kernel
theorem d3_9 : decode method_5_code 9 = .ok (.ifCond .ne 13, 3) := by decide +kernel
theorem d3_12 : decode method_5_code 12 = .ok (.iload_n 2, 1) := by decide +kernel
theorem d3_13 : decode method_5_code 13 = .ok (.iload 5, 2) := by decide +kernel
theorem d3_15 : decode method_5_code 15 = .ok (.if_icmp .ge 7, 3) := by decide +kernel
theorem d3_18 : decode method_5_code 18 = .ok (.iconst 1, 1) := by decide +kernel
theorem d3_19 : decode method_5_code 19 = .ok (.goto 4, 3) := by decide +kernel
theorem d3_22 : decode method_5_code 22 = .ok (.iconst 0, 1) := by decide +kernel
theorem d3_23 : decode method_5_code 23 = .ok (.ireturn, 1) := by decide +kernel
theorem d4_0 : decode prog_70_method_2_code 0 = .ok (.aload_n 0, 1) := by decide +kernel
theorem d4_1 : decode prog_70_method_2_code 1 = .ok (.arraylength, 1) := by decide +kernel
theorem d4_2 : decode prog_70_method_2_code 2 = .ok (.istore_n 1, 1) := by decide +kernel
theorem d4_3 : decode prog_70_method_2_code 3 = .ok (.iload_n 1, 1) := by decide +kernel
theorem d4_4 : decode prog_70_method_2_code 4 = .ok (.newarray .long, 2) := by decide +kernel
theorem d4_6 : decode prog_70_method_2_code 6 = .ok (.astore_n 2, 1) := by decide +kernel
theorem d4_7 : decode prog_70_method_2_code 7 = .ok (.iload_n 1, 1) := by decide +kernel
theorem d4_8 : decode prog_70_method_2_code 8 = .ok (.newarray .int, 2) := by decide +kernel
theorem d4_10 : decode prog_70_method_2_code 10 = .ok (.astore_n 3, 1) := by decide +kernel
theorem d4_11 : decode prog_70_method_2_code 11 = .ok (.lconst 0, 1) := by decide +kernel
theorem d4_12 : decode prog_70_method_2_code 12 = .ok (.lstore 4, 2) := by decide +kernel
theorem d4_14 : decode prog_70_method_2_code 14 = .ok (.iconst 0, 1) := by decide +kernel
theorem d4_15 : decode prog_70_method_2_code 15 = .ok (.istore 6, 2) := by decide +kernel
theorem d4_17 : decode prog_70_method_2_code 17 = .ok (.iload 6, 2) := by decide +kernel
theorem d4_19 : decode prog_70_method_2_code 19 = .ok (.iload_n 1, 1) := by decide +kernel
theorem d4_20 : decode prog_70_method_2_code 20 = .ok (.if_icmp .ge 71, 3) := by decide +kernel
theorem d4_23 : decode prog_70_method_2_code 23 = .ok (.aload_n 0, 1) := by decide +kernel
theorem d4_24 : decode prog_70_method_2_code 24 = .ok (.iload 6, 2) := by decide +kernel
theorem d4_26 : decode prog_70_method_2_code 26 = .ok (.daload, 1) := by decide +kernel
theorem d4_27 : decode prog_70_method_2_code 27 = .ok (.dstore 7, 2) := by decide +kernel
theorem d4_29 : decode prog_70_method_2_code 29 = .ok (.dload 7, 2) := by decide +kernel
theorem d4_31 : decode prog_70_method_2_code 31 = .ok (.dload 7, 2) := by decide +kernel
theorem d4_33 : decode prog_70_method_2_code 33 = .ok (.dcmp .l, 1) := by decide +kernel
theorem d4_34 : decode prog_70_method_2_code 34 = .ok (.ifCond .eq 9, 3) := by decide +kernel
theorem d4_43 : decode prog_70_method_2_code 43 = .ok (.dload 7, 2) := by decide +kernel
theorem d4_45 : decode prog_70_method_2_code 45 = .ok (.invokestatic 15, 3) := by decide +kernel
theorem d4_48 : decode prog_70_method_2_code 48 = .ok (.lstore 9, 2) := by decide +kernel
theorem d4_50 : decode prog_70_method_2_code 50 = .ok (.aload_n 2, 1) := by decide +kernel
theorem d4_51 : decode prog_70_method_2_code 51 = .ok (.iload 6, 2) := by decide +kernel
theorem d4_53 : decode prog_70_method_2_code 53 = .ok (.lload 9, 2) := by decide +kernel
theorem d4_55 : decode prog_70_method_2_code 55 = .ok (.lload 9, 2) := by decide +kernel
theorem d4_57 : decode prog_70_method_2_code 57 = .ok (.bipush 63, 2) := by decide +kernel
theorem d4_59 : decode prog_70_method_2_code 59 = .ok (.lshr, 1) := by decide +kernel
theorem d4_60 : decode prog_70_method_2_code 60 = .ok (.ldc2_w 23, 3) := by decide +kernel
theorem d4_63 : decode prog_70_method_2_code 63 = .ok (.lor, 1) := by decide +kernel
theorem d4_64 : decode prog_70_method_2_code 64 = .ok (.lxor, 1) := by decide +kernel
theorem d4_65 : decode prog_70_method_2_code 65 = .ok (.lastore, 1) := by decide +kernel
theorem d4_66 : decode prog_70_method_2_code 66 = .ok (.aload_n 3, 1) := by decide +kernel
theorem d4_67 : decode prog_70_method_2_code 67 = .ok (.iload 6, 2) := by decide +kernel
theorem d4_69 : decode prog_70_method_2_code 69 = .ok (.iload 6, 2) := by decide +kernel
theorem d4_71 : decode prog_70_method_2_code 71 = .ok (.iastore, 1) := by decide +kernel
theorem d4_72 : decode prog_70_method_2_code 72 = .ok (.lload 4, 2) := by decide +kernel
theorem d4_74 : decode prog_70_method_2_code 74 = .ok (.aload_n 2, 1) := by decide +kernel
theorem d4_75 : decode prog_70_method_2_code 75 = .ok (.iload 6, 2) := by decide +kernel
theorem d4_77 : decode prog_70_method_2_code 77 = .ok (.laload, 1) := by decide +kernel
theorem d4_78 : decode prog_70_method_2_code 78 = .ok (.aload_n 2, 1) := by decide +kernel
theorem d4_79 : decode prog_70_method_2_code 79 = .ok (.iconst 0, 1) := by decide +kernel
theorem d4_80 : decode prog_70_method_2_code 80 = .ok (.laload, 1) := by decide +kernel
theorem d4_81 : decode prog_70_method_2_code 81 = .ok (.lxor, 1) := by decide +kernel
theorem d4_82 : decode prog_70_method_2_code 82 = .ok (.lor, 1) := by decide +kernel
theorem d4_83 : decode prog_70_method_2_code 83 = .ok (.lstore 4, 2) := by decide +kernel
theorem d4_85 : decode prog_70_method_2_code 85 = .ok (.iinc 6 1, 3) := by decide +kernel
theorem d4_88 : decode prog_70_method_2_code 88 = .ok (.goto (-71), 3) := by decide +kernel
theorem d4_91 : decode prog_70_method_2_code 91 = .ok (.iload_n 1, 1) := by decide +kernel
theorem d4_92 : decode prog_70_method_2_code 92 = .ok (.newarray .long, 2) := by decide +kernel
theorem d4_94 : decode prog_70_method_2_code 94 = .ok (.astore 6, 2) := by decide +kernel
theorem d4_96 : decode prog_70_method_2_code 96 = .ok (.iload_n 1, 1) := by decide +kernel
theorem d4_97 : decode prog_70_method_2_code 97 = .ok (.newarray .int, 2) := by decide +kernel
theorem d4_99 : decode prog_70_method_2_code 99 = .ok (.astore 7, 2) := by decide +kernel
theorem d4_101 : decode prog_70_method_2_code 101 = .ok (.sipush 257, 3) := by decide +kernel
theorem d4_104 : decode prog_70_method_2_code 104 = .ok (.newarray .int, 2) := by decide +kernel
theorem d4_106 : decode prog_70_method_2_code 106 = .ok (.astore 8, 2) := by decide +kernel
theorem d4_108 : decode prog_70_method_2_code 108 = .ok (.iconst 0, 1) := by decide +kernel
theorem d4_109 : decode prog_70_method_2_code 109 = .ok (.istore 9, 2) := by decide +kernel
theorem d4_111 : decode prog_70_method_2_code 111 = .ok (.iload 9, 2) := by decide +kernel
theorem d4_113 : decode prog_70_method_2_code 113 = .ok (.bipush 64, 2) := by decide +kernel
theorem d4_115 : decode prog_70_method_2_code 115 = .ok (.if_icmp .ge 189, 3) := by decide +kernel
theorem d4_118 : decode prog_70_method_2_code 118 = .ok (.lload 4, 2) := by decide +kernel
theorem d4_120 : decode prog_70_method_2_code 120 = .ok (.iload 9, 2) := by decide +kernel
theorem d4_122 : decode prog_70_method_2_code 122 = .ok (.lushr, 1) := by decide +kernel
theorem d4_123 : decode prog_70_method_2_code 123 = .ok (.ldc2_w 25, 3) := by decide +kernel
theorem d4_126 : decode prog_70_method_2_code 126 = .ok (.land, 1) := by decide +kernel
theorem d4_127 : decode prog_70_method_2_code 127 = .ok (.lconst 0, 1) := by decide +kernel
theorem d4_128 : decode prog_70_method_2_code 128 = .ok (.lcmp, 1) := by decide +kernel
theorem d4_129 : decode prog_70_method_2_code 129 = .ok (.ifCond .ne 6, 3) := by decide +kernel
theorem d4_132 : decode prog_70_method_2_code 132 = .ok (.goto 166, 3) := by decide +kernel
theorem d4_135 : decode prog_70_method_2_code 135 = .ok (.aload 8, 2) := by decide +kernel
theorem d4_137 : decode prog_70_method_2_code 137 = .ok (.iconst 0, 1) := by decide +kernel
theorem d4_138 : decode prog_70_method_2_code 138 = .ok (.invokestatic 27, 3) := by decide +kernel
theorem d4_141 : decode prog_70_method_2_code 141 = .ok (.aload_n 2, 1) := by decide +kernel
theorem d4_142 : decode prog_70_method_2_code 142 = .ok (.astore 10, 2) := by decide +kernel
theorem d4_144 : decode prog_70_method_2_code 144 = .ok (.aload 10, 2) := by decide +kernel
theorem d4_146 : decode prog_70_method_2_code 146 = .ok (.arraylength, 1) := by decide +kernel
theorem d4_147 : decode prog_70_method_2_code 147 = .ok (.istore 11, 2) := by decide +kernel
theorem d4_149 : decode prog_70_method_2_code 149 = .ok (.iconst 0, 1) := by decide +kernel
theorem d4_150 : decode prog_70_method_2_code 150 = .ok (.istore 12, 2) := by decide +kernel
theorem d4_152 : decode prog_70_method_2_code 152 = .ok (.iload 12, 2) := by decide +kernel
theorem d4_154 : decode prog_70_method_2_code 154 = .ok (.iload 11, 2) := by decide +kernel
theorem d4_156 : decode prog_70_method_2_code 156 = .ok (.if_icmp .ge 35, 3) := by decide +kernel
theorem d4_159 : decode prog_70_method_2_code 159 = .ok (.aload 10, 2) := by decide +kernel
theorem d4_161 : decode prog_70_method_2_code 161 = .ok (.iload 12, 2) := by decide +kernel
theorem d4_163 : decode prog_70_method_2_code 163 = .ok (.laload, 1) := by decide +kernel
theorem d4_164 : decode prog_70_method_2_code 164 = .ok (.lstore 13, 2) := by decide +kernel
theorem d4_166 : decode prog_70_method_2_code 166 = .ok (.aload 8, 2) := by decide +kernel
theorem d4_168 : decode prog_70_method_2_code 168 = .ok (.lload 13, 2) := by decide +kernel
theorem d4_170 : decode prog_70_method_2_code 170 = .ok (.iload 9, 2) := by decide +kernel
theorem d4_172 : decode prog_70_method_2_code 172 = .ok (.lushr, 1) := by decide +kernel
theorem d4_173 : decode prog_70_method_2_code 173 = .ok (.ldc2_w 25, 3) := by decide +kernel
theorem d4_176 : decode prog_70_method_2_code 176 = .ok (.land, 1) := by decide +kernel
theorem d4_177 : decode prog_70_method_2_code 177 = .ok (.l2i, 1) := by decide +kernel
theorem d4_178 : decode prog_70_method_2_code 178 = .ok (.iconst 1, 1) := by decide +kernel
theorem d4_179 : decode prog_70_method_2_code 179 = .ok (.iadd, 1) := by decide +kernel
theorem d4_180 : decode prog_70_method_2_code 180 = .ok (.dup2, 1) := by decide +kernel
theorem d4_181 : decode prog_70_method_2_code 181 = .ok (.iaload, 1) := by decide +kernel
theorem d4_182 : decode prog_70_method_2_code 182 = .ok (.iconst 1, 1) := by decide +kernel
theorem d4_183 : decode prog_70_method_2_code 183 = .ok (.iadd, 1) := by decide +kernel
theorem d4_184 : decode prog_70_method_2_code 184 = .ok (.iastore, 1) := by decide +kernel
theorem d4_185 : decode prog_70_method_2_code 185 = .ok (.iinc 12 1, 3) := by decide +kernel
theorem d4_188 : decode prog_70_method_2_code 188 = .ok (.goto (-36), 3) := by decide +kernel
theorem d4_191 : decode prog_70_method_2_code 191 = .ok (.iconst 1, 1) := by decide +kernel
theorem d4_192 : decode prog_70_method_2_code 192 = .ok (.istore 10, 2) := by decide +kernel
theorem d4_194 : decode prog_70_method_2_code 194 = .ok (.iload 10, 2) := by decide +kernel
theorem d4_196 : decode prog_70_method_2_code 196 = .ok (.sipush 256, 3) := by decide +kernel
theorem d4_199 : decode prog_70_method_2_code 199 = .ok (.if_icmp .ge 24, 3) := by decide +kernel
theorem d4_202 : decode prog_70_method_2_code 202 = .ok (.aload 8, 2) := by decide +kernel
theorem d4_204 : decode prog_70_method_2_code 204 = .ok (.iload 10, 2) := by decide +kernel
theorem d4_206 : decode prog_70_method_2_code 206 = .ok (.dup2, 1) := by decide +kernel
theorem d4_207 : decode prog_70_method_2_code 207 = .ok (.iaload, 1) := by decide +kernel
theorem d4_208 : decode prog_70_method_2_code 208 = .ok (.aload 8, 2) := by decide +kernel
theorem d4_210 : decode prog_70_method_2_code 210 = .ok (.iload 10, 2) := by decide +kernel
theorem d4_212 : decode prog_70_method_2_code 212 = .ok (.iconst 1, 1) := by decide +kernel
theorem d4_213 : decode prog_70_method_2_code 213 = .ok (.isub, 1) := by decide +kernel
theorem d4_214 : decode prog_70_method_2_code 214 = .ok (.iaload, 1) := by decide +kernel
theorem d4_215 : decode prog_70_method_2_code 215 = .ok (.iadd, 1) := by decide +kernel
theorem d4_216 : decode prog_70_method_2_code 216 = .ok (.iastore, 1) := by decide +kernel
theorem d4_217 : decode prog_70_method_2_code 217 = .ok (.iinc 10 1, 3) := by decide +kernel
theorem d4_220 : decode prog_70_method_2_code 220 = .ok (.goto (-26), 3) := by decide +kernel
theorem d4_223 : decode prog_70_method_2_code 223 = .ok (.iconst 0, 1) := by decide +kernel
theorem d4_224 : decode prog_70_method_2_code 224 = .ok (.istore 10, 2) := by decide +kernel
theorem d4_226 : decode prog_70_method_2_code 226 = .ok (.iload 10, 2) := by decide +kernel
theorem d4_228 : decode prog_70_method_2_code 228 = .ok (.iload_n 1, 1) := by decide +kernel
theorem d4_229 : decode prog_70_method_2_code 229 = .ok (.if_icmp .ge 49, 3) := by decide +kernel
theorem d4_232 : decode prog_70_method_2_code 232 = .ok (.aload 8, 2) := by decide +kernel
theorem d4_234 : decode prog_70_method_2_code 234 = .ok (.aload_n 2, 1) := by decide +kernel
theorem d4_235 : decode prog_70_method_2_code 235 = .ok (.iload 10, 2) := by decide +kernel
theorem d4_237 : decode prog_70_method_2_code 237 = .ok (.laload, 1) := by decide +kernel
theorem d4_238 : decode prog_70_method_2_code 238 = .ok (.iload 9, 2) := by decide +kernel
theorem d4_240 : decode prog_70_method_2_code 240 = .ok (.lushr, 1) := by decide +kernel
theorem d4_241 : decode prog_70_method_2_code 241 = .ok (.ldc2_w 25, 3) := by decide +kernel
theorem d4_244 : decode prog_70_method_2_code 244 = .ok (.land, 1) := by decide +kernel
theorem d4_245 : decode prog_70_method_2_code 245 = .ok (.l2i, 1) := by decide +kernel
theorem d4_246 : decode prog_70_method_2_code 246 = .ok (.dup2, 1) := by decide +kernel
theorem d4_247 : decode prog_70_method_2_code 247 = .ok (.iaload, 1) := by decide +kernel
theorem d4_248 : decode prog_70_method_2_code 248 = .ok (.dup_x2, 1) := by decide +kernel
theorem d4_249 : decode prog_70_method_2_code 249 = .ok (.iconst 1, 1) := by decide +kernel
theorem d4_250 : decode prog_70_method_2_code 250 = .ok (.iadd, 1) := by decide +kernel
theorem d4_251 : decode prog_70_method_2_code 251 = .ok (.iastore, 1) := by decide +kernel
theorem d4_252 : decode prog_70_method_2_code 252 = .ok (.istore 11, 2) := by decide +kernel
theorem d4_254 : decode prog_70_method_2_code 254 = .ok (.aload 6, 2) := by decide +kernel
theorem d4_256 : decode prog_70_method_2_code 256 = .ok (.iload 11, 2) := by decide +kernel
theorem d4_258 : decode prog_70_method_2_code 258 = .ok (.aload_n 2, 1) := by decide +kernel
theorem d4_259 : decode prog_70_method_2_code 259 = .ok (.iload 10, 2) := by decide +kernel
theorem d4_261 : decode prog_70_method_2_code 261 = .ok (.laload, 1) := by decide +kernel
theorem d4_262 : decode prog_70_method_2_code 262 = .ok (.lastore, 1) := by decide +kernel
theorem d4_263 : decode prog_70_method_2_code 263 = .ok (.aload 7, 2) := by decide +kernel
theorem d4_265 : decode prog_70_method_2_code 265 = .ok (.iload 11, 2) := by decide +kernel
theorem d4_267 : decode prog_70_method_2_code 267 = .ok (.aload_n 3, 1) := by decide +kernel
theorem d4_268 : decode prog_70_method_2_code 268 = .ok (.iload 10, 2) := by decide +kernel
theorem d4_270 : decode prog_70_method_2_code 270 = .ok (.iaload, 1) := by decide +kernel
theorem d4_271 : decode prog_70_method_2_code 271 = .ok (.iastore, 1) := by decide +kernel
theorem d4_272 : decode prog_70_method_2_code 272 = .ok (.iinc 10 1, 3) := by decide +kernel
theorem d4_275 : decode prog_70_method_2_code 275 = .ok (.goto (-49), 3) := by decide +kernel
theorem d4_278 : decode prog_70_method_2_code 278 = .ok (.aload_n 2, 1) := by decide +kernel
theorem d4_279 : decode prog_70_method_2_code 279 = .ok (.astore 10, 2) := by decide +kernel
theorem d4_281 : decode prog_70_method_2_code 281 = .ok (.aload 6, 2) := by decide +kernel
theorem d4_283 : decode prog_70_method_2_code 283 = .ok (.astore_n 2, 1) := by decide +kernel
theorem d4_284 : decode prog_70_method_2_code 284 = .ok (.aload 10, 2) := by decide +kernel
theorem d4_286 : decode prog_70_method_2_code 286 = .ok (.astore 6, 2) := by decide +kernel
theorem d4_288 : decode prog_70_method_2_code 288 = .ok (.aload_n 3, 1) := by decide +kernel
theorem d4_289 : decode prog_70_method_2_code 289 = .ok (.astore 11, 2) := by decide +kernel
theorem d4_291 : decode prog_70_method_2_code 291 = .ok (.aload 7, 2) := by decide +kernel
theorem d4_293 : decode prog_70_method_2_code 293 = .ok (.astore_n 3, 1) := by decide +kernel
theorem d4_294 : decode prog_70_method_2_code 294 = .ok (.aload 11, 2) := by decide +kernel
theorem d4_296 : decode prog_70_method_2_code 296 = .ok (.astore 7, 2) := by decide +kernel
theorem d4_298 : decode prog_70_method_2_code 298 = .ok (.iinc 9 8, 3) := by decide +kernel
theorem d4_301 : decode prog_70_method_2_code 301 = .ok (.goto (-190), 3) := by decide +kernel
theorem d4_304 : decode prog_70_method_2_code 304 = .ok (.aload_n 3, 1) := by decide +kernel
theorem d4_305 : decode prog_70_method_2_code 305 = .ok (.areturn, 1) := by decide +kernel
theorem d5_0 : decode jdk_65_method_103_code 0 = .ok (.iconst 0, 1) := by decide +kernel
theorem d5_1 : decode jdk_65_method_103_code 1 = .ok (.istore_n 2, 1) := by decide +kernel
theorem d5_2 : decode jdk_65_method_103_code 2 = .ok (.aload_n 0, 1) := by decide +kernel
theorem d5_3 : decode jdk_65_method_103_code 3 = .ok (.arraylength, 1) := by decide +kernel
theorem d5_4 : decode jdk_65_method_103_code 4 = .ok (.istore_n 3, 1) := by decide +kernel
theorem d5_5 : decode jdk_65_method_103_code 5 = .ok (.iload_n 2, 1) := by decide +kernel
theorem d5_6 : decode jdk_65_method_103_code 6 = .ok (.iload_n 3, 1) := by decide +kernel
theorem d5_7 : decode jdk_65_method_103_code 7 = .ok (.if_icmp .ge 13, 3) := by decide +kernel
theorem d5_10 : decode jdk_65_method_103_code 10 = .ok (.aload_n 0, 1) := by decide +kernel
theorem d5_11 : decode jdk_65_method_103_code 11 = .ok (.iload_n 2, 1) := by decide +kernel
theorem d5_12 : decode jdk_65_method_103_code 12 = .ok (.iload_n 1, 1) := by decide +kernel
theorem d5_13 : decode jdk_65_method_103_code 13 = .ok (.iastore, 1) := by decide +kernel
theorem d5_14 : decode jdk_65_method_103_code 14 = .ok (.iinc 2 1, 3) := by decide +kernel
theorem d5_17 : decode jdk_65_method_103_code 17 = .ok (.goto (-12), 3) := by decide +kernel
theorem d5_20 : decode jdk_65_method_103_code 20 = .ok (.return_, 1) := by decide +kernel
theorem pd_0 : parseMethodDescriptor "([II)V" = some ⟨[(.array .int), .int], none⟩ := by decide +kernel
theorem pd_1 : parseMethodDescriptor "(JZ)D" = some ⟨[.long, .boolean], some .double⟩ := by decide +kernel
theorem pd_2 : parseMethodDescriptor "(JZ)J" = some ⟨[.long, .boolean], some .long⟩ := by decide +kernel
theorem pd_3 : parseMethodDescriptor "(JIJI)I" = some ⟨[.long, .int, .long, .int], some .int⟩ := by decide +kernel
theorem pd_4 : parseMethodDescriptor "([D)[I" = some ⟨[(.array .double)], some (.array .int)⟩ := by decide +kernel

theorem own_lc0 {x y : Int64} : k_cmpL x y = 0 ↔ x = y := by
  unfold k_cmpL
  by_cases h : x > y
  · rw [if_pos h]; exact ⟨fun q => absurd q (by decide), fun q => by subst q; exact absurd h (Int64.lt_irrefl)⟩
  · rw [if_neg h]; by_cases e : x = y
    · rw [if_pos e]; simp [e]
    · rw [if_neg e]; exact ⟨fun q => absurd q (by decide), fun q => absurd q e⟩
theorem own_lclt {x y : Int64} : k_cmpL x y < 0 ↔ x < y := by
  unfold k_cmpL
  by_cases h : x > y
  · rw [if_pos h]; exact ⟨fun q => absurd q (by decide), fun q => by rw [Int64.lt_iff_toInt_lt] at q; have h' := Int64.lt_iff_toInt_lt.mp h; omega⟩
  · rw [if_neg h]; by_cases e : x = y
    · rw [if_pos e]; exact ⟨fun q => absurd q (by decide), fun q => by subst e; exact absurd q Int64.lt_irrefl⟩
    · rw [if_neg e]; refine ⟨fun _ => ?_, fun _ => by decide⟩
      rw [Int64.lt_iff_toInt_lt]
      have h' : ¬ y.toInt < x.toInt := fun q => h (Int64.lt_iff_toInt_lt.mpr q)
      have e' : ¬ x.toInt = y.toInt := fun q => e (Int64.toInt_inj.mp q)
      omega
theorem own_fill (j i : Nat) (f : Nat → Value) : (if j = i then Value.int 0 else (if j < i then Value.int 0 else f j)) = (if j < i + 1 then Value.int 0 else f j) := by
  by_cases a : j = i
  · rw [if_pos a, if_pos (by omega)]
  · rw [if_neg a]; by_cases b : j < i
    · rw [if_pos b, if_pos (by omega)]
    · rw [if_neg b, if_neg (by omega)]
def own_n (k : Nat) : Int32 := Int32.ofNat k
def own_L (b0 b1 b2 b3 j : Nat) : Nat := (if b0 < j then 1 else 0) + (if b1 < j then 1 else 0) + (if b2 < j then 1 else 0) + (if b3 < j then 1 else 0)
def own_E (b0 b1 b2 b3 j : Nat) : Nat := (if b0 + 1 = j then 1 else 0) + (if b1 + 1 = j then 1 else 0) + (if b2 + 1 = j then 1 else 0) + (if b3 + 1 = j then 1 else 0)
theorem own_L1 (b i : Nat) (h : 1 ≤ i) : (if b < i then 1 else 0) = (if b < i - 1 then 1 else 0) + (if b + 1 = i then 1 else 0) := by
  by_cases a : b < i - 1
  · rw [if_pos a, if_pos (by omega), if_neg (by omega)]
  · rw [if_neg a]; by_cases c : b + 1 = i
    · rw [if_pos c, if_pos (by omega)]
    · rw [if_neg c, if_neg (by omega)]
theorem own_LE (b0 b1 b2 b3 i : Nat) (h : 1 ≤ i) : own_L b0 b1 b2 b3 i = own_E b0 b1 b2 b3 i + own_L b0 b1 b2 b3 (i - 1) := by
  unfold own_L own_E
  rw [own_L1 b0 i h, own_L1 b1 i h, own_L1 b2 i h, own_L1 b3 i h]; omega
theorem own_nadd (x y : Nat) : own_n x + own_n y = own_n (x + y) := by
  unfold own_n; exact (Int32.ofNat_add x y).symm
theorem own_pre {b0 b1 b2 b3 : Nat} (j i : Nat) (h : 1 ≤ i) : (if j = i then Value.int (own_n (own_E b0 b1 b2 b3 i) + own_n (own_L b0 b1 b2 b3 (i - 1))) else Value.int (own_n (if j < i then own_L b0 b1 b2 b3 j else own_E b0 b1 b2 b3 j))) = Value.int (own_n (if j < i + 1 then own_L b0 b1 b2 b3 j else own_E b0 b1 b2 b3 j)) := by
  by_cases a : j = i
  · subst a; rw [if_pos rfl, if_pos (by omega), own_nadd, ← own_LE _ _ _ _ _ h]
  · rw [if_neg a]; by_cases c : j < i
    · rw [if_pos c, if_pos (by omega)]
    · rw [if_neg c, if_neg (by omega)]
theorem own_im1 {x : Int32} {i : Nat} (h : x.toInt = (i : Int)) (h1 : 1 ≤ i) : (x - (1 : Int32)).toInt = ((i - 1 : Nat) : Int) := by
  have e1 : (1 : Int32).toInt = 1 := rfl
  have := OwnNum.small h
  rw [Int32.toInt_sub, h, e1, Int.bmod_eq_of_le (by omega) (by omega)]; omega

def own_sl (s10 s11 s12 s13 s14 : Slot) : Prop := (s10 = .unset ∧ s11 = .unset ∧ s12 = .unset ∧ s13 = .unset ∧ s14 = .unset) ∨ ∃ (a10 a11 : Addr) (c12 : Int32) (d13 : Int64), s10 = .val (.ref a10) ∧ s11 = .val (.ref a11) ∧ s12 = .val (.int c12) ∧ s13 = .val (.long d13) ∧ s14 = .second
def own_df (U : Nat → Int64) (df : Int64) : Prop := df = ((((0 : Int64) ||| (U 0 ^^^ U 0)) ||| (U 1 ^^^ U 0)) ||| (U 2 ^^^ U 0)) ||| (U 3 ^^^ U 0)
def own_bt (x : Int64) (S : Nat) : Nat := x.toBitVec.toNat / 2 ^ S % 256
def own_lw (x : Int64) (S : Nat) : Nat := x.toBitVec.toNat % 2 ^ S
/-- the arrays are U's, in the order of the low S bits (and of the place, where those agree) -/
def own_inv (U : Nat → Int64) (S : Nat) (A : Nat → Int64) (O : Nat → Int32) : Prop :=
  ∃ q : Nat → Nat, (∀ i, i < 4 → q i < 4 ∧ A (q i) = U i ∧ O (q i) = Int32.ofNat i) ∧ ∀ i k, i < 4 → k < 4 → i ≠ k → (q i < q k ↔ (own_lw (U i) S < own_lw (U k) S ∨ (own_lw (U i) S = own_lw (U k) S ∧ i < k)))
theorem own_cnt (g : Nat → Nat) (b j : Nat) : (if j = b + 1 then Value.int (own_n (g (b + 1)) + 1) else Value.int (own_n (g j))) = Value.int (own_n (g j + (if b + 1 = j then 1 else 0))) := by
  by_cases a : j = b + 1
  · subst a; rw [if_pos rfl, if_pos rfl, show (1 : Int32) = own_n 1 from rfl, own_nadd]
  · rw [if_neg a, if_neg (fun q => a q.symm)]; rfl
theorem own_cnt0 (g : Nat → Nat) (b j : Nat) : (if j = b + 1 then Value.int (own_n 0 + 1) else Value.int (own_n 0)) = Value.int (own_n (if b + 1 = j then 1 else 0)) := by
  by_cases a : j = b + 1
  · subst a; rw [if_pos rfl, if_pos rfl]; rfl
  · rw [if_neg a, if_neg (fun q => a q.symm)]
theorem own_inc (f g : Nat → Nat) (b j : Nat) : (if j = b then Value.int (own_n (f b + (g b)) + 1) else Value.int (own_n (f j + (g j)))) = Value.int (own_n (f j + (g j + (if b = j then 1 else 0)))) := by
  by_cases a : j = b
  · subst a; rw [if_pos rfl, if_pos rfl, show (1 : Int32) = own_n 1 from rfl, own_nadd, Nat.add_assoc]
  · rw [if_neg a, if_neg (fun q => a q.symm)]; rfl
theorem own_inc0 (f g : Nat → Nat) (b j : Nat) : (if j = b then Value.int (own_n (f b + (0)) + 1) else Value.int (own_n (f j + (0)))) = Value.int (own_n (f j + ((if b = j then 1 else 0)))) := by
  by_cases a : j = b
  · subst a; rw [if_pos rfl, if_pos rfl, show (1 : Int32) = own_n 1 from rfl, own_nadd]
  · rw [if_neg a, if_neg (fun q => a q.symm)]
theorem own_st {b0 b1 b2 b3 : Nat} (j : Nat) : Value.int (own_n ((if b0 + 1 = j then 1 else 0) + (if b1 + 1 = j then 1 else 0) + (if b2 + 1 = j then 1 else 0) + (if b3 + 1 = j then 1 else 0))) = Value.int (own_n (if j < 1 then own_L b0 b1 b2 b3 j else own_E b0 b1 b2 b3 j)) := by
  by_cases a : j < 1
  · obtain rfl : j = 0 := by omega
    rw [if_pos a]; simp [own_L]
  · rw [if_neg a]; rfl
theorem own_nt {k : Nat} (h : k < 2 ^ 31) : (own_n k).toInt = (k : Int) := Int32.toInt_ofNat_of_lt h
theorem own_wl {x y : Int64} (j P : Nat) : (if j = P then Value.long x else Value.long y) = Value.long (if j = P then x else y) := by by_cases a : j = P <;> simp [a]
theorem own_wi {x y : Int32} (j P : Nat) : (if j = P then Value.int x else Value.int y) = Value.int (if j = P then x else y) := by by_cases a : j = P <;> simp [a]
theorem own_sum4 (a b c d : Nat) (ha : a ≤ 1) (hb : b ≤ 1) (hc : c ≤ 1) (hd : d = 0) : a + b + c + d < 4 := by omega
theorem own_if1 (P : Prop) [Decidable P] : (if P then 1 else 0 : Nat) ≤ 1 := by by_cases h : P <;> simp [h]
theorem own_ifs (a b : Nat) : (if a < b then 1 else 0 : Nat) + (if a = b then 1 else 0) ≤ 1 := by
  by_cases h : a < b
  · rw [if_pos h, if_neg (by omega)]; decide
  · rw [if_neg h]; have := own_if1 (a = b); omega
theorem own_P0 (b0 b1 b2 b3 : Nat) : own_L b0 b1 b2 b3 b0 + (0) < 4 := by
  unfold own_L; rw [if_neg (Nat.lt_irrefl b0)]; have h1 := own_if1 (b1 < b0); have h2 := own_if1 (b2 < b0); have h3 := own_if1 (b3 < b0); omega
theorem own_P1 (b0 b1 b2 b3 : Nat) : own_L b0 b1 b2 b3 b1 + ((if b0 = b1 then 1 else 0)) < 4 := by
  unfold own_L; rw [if_neg (Nat.lt_irrefl b1)]; have h1 := own_ifs b0 b1; have h2 := own_if1 (b2 < b1); have h3 := own_if1 (b3 < b1); omega
theorem own_P2 (b0 b1 b2 b3 : Nat) : own_L b0 b1 b2 b3 b2 + ((if b0 = b2 then 1 else 0) + (if b1 = b2 then 1 else 0)) < 4 := by
  unfold own_L; rw [if_neg (Nat.lt_irrefl b2)]; have h1 := own_ifs b0 b2; have h2 := own_ifs b1 b2; have h3 := own_if1 (b3 < b2); omega
theorem own_P3 (b0 b1 b2 b3 : Nat) : own_L b0 b1 b2 b3 b3 + ((if b0 = b3 then 1 else 0) + (if b1 = b3 then 1 else 0) + (if b2 = b3 then 1 else 0)) < 4 := by
  unfold own_L; rw [if_neg (Nat.lt_irrefl b3)]; have h1 := own_ifs b0 b3; have h2 := own_ifs b1 b3; have h3 := own_ifs b2 b3; omega

def own_u (K : UInt64) : Int64 := ((UInt64.toInt64 K) ^^^ (((UInt64.toInt64 K) >>> ((63 : Int32) &&& 63).toInt64) ||| (-9223372036854775808 : Int64)))
theorem own_inv0 {U : Nat → Int64} : own_inv U 0 U (fun j => if j = 0 then 0 else if j = 1 then 1 else if j = 2 then 2 else 3) := by
  refine ⟨fun i => i, fun i hi => ⟨hi, rfl, ?_⟩, fun i k _ _ _ => ?_⟩
  · match i, hi with
    | 0, _ => rfl
    | 1, _ => rfl
    | 2, _ => rfl
    | 3, _ => rfl
  · show i < k ↔ _
    unfold own_lw; rw [Nat.pow_zero, Nat.mod_one, Nat.mod_one]
    exact ⟨fun h => Or.inr ⟨rfl, h⟩, fun h => h.elim (fun z => absurd z (by decide)) (fun z => z.2)⟩

def own_sm (y : Int64) : Prop := -(2 ^ 52 : Int) ≤ y.toInt ∧ y.toInt < 2 ^ 52
def own_zf (m : Int32) (y : Int64) : Prop := m = 0 ∨ (m = 1 ∧ y = 0)
theorem own_zfi (P : Prop) [Decidable P] (y : Int64) : own_zf (if P ∧ y = 0 then (1 : Int32) else 0) y := by
  by_cases h : P ∧ y = 0
  · rw [if_pos h]; exact Or.inr ⟨rfl, h.2⟩
  · rw [if_neg h]; exact Or.inl rfl
theorem own_shr11 (p : Int64) : own_sm (p >>> ((11 : Int32) &&& 63).toInt64) := by
  have e : (p >>> ((11 : Int32) &&& 63).toInt64).toInt = p.toInt / 2048 := by
    show (p.toBitVec.sshiftRight 11).toInt = _
    rw [BitVec.toInt_sshiftRight]
    show p.toInt >>> 11 = _
    rw [Int.shiftRight_eq_div_pow]; rfl
  have h1 := Int64.toInt_lt p
  have h2 := Int64.le_toInt p
  unfold own_sm; rw [e]; omega
theorem own_byte (x : Int64) {sh : Int32} {S : Nat} (hs : sh.toInt = (S : Int)) (h : S ≤ 56) : ∃ b : Nat, (((k_ushrL x sh) &&& (255 : Int64)).toInt32).toInt = (b : Int) ∧ b < 256 ∧ b = own_bt x S := by
  have hsn := OwnNum.toNat hs
  have e1 : (k_ushrL x sh).toBitVec.toNat = x.toBitVec.toNat / 2 ^ S := by
    show (x.toUInt64 >>> (sh &&& 63).toInt64.toUInt64).toBitVec.toNat = _
    have es : ((sh &&& 63).toInt64.toUInt64).toBitVec.toNat = S := by
      show ((sh.toBitVec &&& 63#32).signExtend 64).toNat = S
      have a : (sh.toBitVec &&& 63#32).toNat = S := by
        rw [BitVec.toNat_and, hsn]
        show S &&& 63 = S
        rw [show (63 : Nat) = 2 ^ 6 - 1 from rfl, Nat.and_two_pow_sub_one_eq_mod]; omega
      rw [BitVec.signExtend_eq_setWidth_of_msb_false, BitVec.toNat_setWidth, a]
      · omega
      · rw [BitVec.msb_eq_decide]; simp only [decide_eq_false_iff_not, a]; omega
    rw [UInt64.toBitVec_shiftRight]
    show (x.toBitVec >>> (((sh &&& 63).toInt64.toUInt64).toBitVec % 64)).toNat = _
    rw [BitVec.ushiftRight_eq', BitVec.toNat_ushiftRight, Nat.shiftRight_eq_div_pow, BitVec.toNat_umod, es]
    show _ / 2 ^ (S % 64) = _
    rw [Nat.mod_eq_of_lt (by omega)]
  have e2 : ((k_ushrL x sh) &&& (255 : Int64)).toBitVec.toNat = own_bt x S := by
    rw [Int64.toBitVec_and, BitVec.toNat_and, e1]
    show (x.toBitVec.toNat / 2 ^ S) &&& 255 = _
    rw [show (255 : Nat) = 2 ^ 8 - 1 from rfl, Nat.and_two_pow_sub_one_eq_mod]; rfl
  have hlt : own_bt x S < 256 := Nat.mod_lt _ (by decide)
  refine ⟨own_bt x S, ?_, hlt, rfl⟩
  refine OwnNum.toInt ?_ (by omega)
  generalize ((k_ushrL x sh) &&& (255 : Int64)) = y at e2 ⊢
  show (y.toBitVec.signExtend 32).toNat = _
  rw [BitVec.signExtend_eq_setWidth_of_le _ (by decide), BitVec.toNat_setWidth, e2]; omega
theorem own_bitB (x S t : Nat) : (x / 2 ^ S % 256).testBit t = (decide (t < 8) && x.testBit (S + t)) := by
  rw [show (256 : Nat) = 2 ^ 8 from rfl, Nat.testBit_mod_two_pow, Nat.testBit_div_two_pow, Nat.add_comm]
theorem own_btz {x : Int64} {S : Nat} (h : own_bt x S = 0) (t : Nat) (ht : t < 8) : x.toBitVec.toNat.testBit (S + t) = false := by
  have := own_bitB x.toBitVec.toNat S t
  unfold own_bt at h
  rw [h, Nat.zero_testBit] at this
  simpa [ht] using this.symm
theorem own_bteq {x y : Int64} {S : Nat} (h : ∀ t, t < 8 → x.toBitVec.toNat.testBit (S + t) = y.toBitVec.toNat.testBit (S + t)) : own_bt x S = own_bt y S := by
  refine Nat.eq_of_testBit_eq fun t => ?_
  unfold own_bt
  rw [own_bitB, own_bitB]
  by_cases ht : t < 8
  · rw [h t ht]
  · simp [ht]
theorem own_tor (x y : Int64) (i : Nat) : (x ||| y).toBitVec.toNat.testBit i = (x.toBitVec.toNat.testBit i || y.toBitVec.toNat.testBit i) := by
  rw [Int64.toBitVec_or, BitVec.toNat_or, Nat.testBit_or]
theorem own_txor (x y : Int64) (i : Nat) : (x ^^^ y).toBitVec.toNat.testBit i = (x.toBitVec.toNat.testBit i ^^ y.toBitVec.toNat.testBit i) := by
  rw [Int64.toBitVec_xor, BitVec.toNat_xor, Nat.testBit_xor]
theorem own_lw8 (x : Int64) (S : Nat) : own_lw x (S + 8) = own_lw x S + 2 ^ S * own_bt x S := by
  unfold own_lw own_bt
  rw [Nat.pow_add, Nat.mod_mul]
theorem own_lwlt (x : Int64) (S : Nat) : own_lw x S < 2 ^ S := Nat.mod_lt _ (Nat.two_pow_pos S)
/-- the order by S + 8 bits: by the byte, then by the S bits -/
theorem own_lex (x y : Int64) (S : Nat) : (own_lw x (S + 8) < own_lw y (S + 8) ↔ (own_bt x S < own_bt y S ∨ (own_bt x S = own_bt y S ∧ own_lw x S < own_lw y S))) ∧ (own_lw x (S + 8) = own_lw y (S + 8) ↔ (own_bt x S = own_bt y S ∧ own_lw x S = own_lw y S)) := by
  rw [own_lw8, own_lw8]
  have h1 := own_lwlt x S
  have h2 := own_lwlt y S
  rcases Nat.lt_trichotomy (own_bt x S) (own_bt y S) with h | h | h
  · have := Nat.mul_le_mul_left (2 ^ S) (Nat.succ_le_of_lt h)
    rw [Nat.mul_succ] at this
    constructor
    · constructor
      · intro _; exact Or.inl h
      · intro _; omega
    · constructor
      · intro q; omega
      · intro q; omega
  · rw [h]
    constructor
    · constructor
      · intro q; exact Or.inr ⟨rfl, by omega⟩
      · intro q; rcases q with q | q
        · omega
        · have := q.2; omega
    · constructor
      · intro q; exact ⟨rfl, by omega⟩
      · intro q; have := q.2; omega
  · have := Nat.mul_le_mul_left (2 ^ S) (Nat.succ_le_of_lt h)
    rw [Nat.mul_succ] at this
    constructor
    · constructor
      · intro q; omega
      · intro q; omega
    · constructor
      · intro q; omega
      · intro q; omega
theorem own_skip0 {U : Nat → Int64} {S : Nat} {A : Nat → Int64} {O : Nat → Int32} {df : Int64} (I : own_inv U S A O) (hd : own_df U df) (z : own_bt df S = 0) : own_inv U (S + 8) A O := by
  have hb : ∀ i, i < 4 → own_bt (U i) S = own_bt (U 0) S := fun i hi => by
    refine own_bteq fun t ht => ?_
    have q := own_btz z t ht
    rw [hd, own_tor, own_tor, own_tor, own_tor] at q
    simp only [Bool.or_eq_false_iff] at q
    obtain ⟨⟨⟨⟨-, q0⟩, q1⟩, q2⟩, q3⟩ := q
    rw [own_txor] at q0 q1 q2 q3
    match i, hi with
    | 0, _ => rfl
    | 1, _ => simpa using q1
    | 2, _ => simpa using q2
    | 3, _ => simpa using q3
  obtain ⟨q, h1, h2⟩ := I
  refine ⟨q, h1, fun i k hi hk hne => (h2 i k hi hk hne).trans ?_⟩
  rw [(own_lex (U i) (U k) S).1, (own_lex (U i) (U k) S).2, hb i hi, hb k hk]
  constructor
  · rintro (a | a)
    · exact Or.inl (Or.inr ⟨rfl, a⟩)
    · exact Or.inr ⟨⟨rfl, a.1⟩, a.2⟩
  · rintro ((a | a) | a)
    · exact absurd a (Nat.lt_irrefl _)
    · exact Or.inl a.2
    · exact Or.inr ⟨a.1.2, a.2⟩
theorem own_skip {U : Nat → Int64} {S : Nat} {A : Nat → Int64} {O : Nat → Int32} {df : Int64} {sh : Int32} (I : own_inv U S A O) (hd : own_df U df) (hs : sh.toInt = (S : Int)) (h : S ≤ 56) (z : ((k_ushrL df sh) &&& (255 : Int64)) = 0) : own_inv U (S + 8) A O := by
  obtain ⟨b, e1, e2, e3⟩ := own_byte df hs h
  rw [z] at e1
  have e4 : (b : Int) = 0 := e1.symm
  exact own_skip0 I hd (by omega)
def own_c4 (t01 t02 t03 t12 t13 t23 : Bool) (r : Nat) : Nat := if r = 0 then (!t01).toNat + (!t02).toNat + (!t03).toNat else if r = 1 then t01.toNat + (!t12).toNat + (!t13).toNat else if r = 2 then t02.toNat + t12.toNat + (!t23).toNat else t03.toNat + t13.toNat + t23.toNat
def own_r4 (t01 t02 t03 t12 t13 t23 : Bool) (r s : Nat) : Bool := if r = 0 then (if s = 1 then t01 else if s = 2 then t02 else t03) else if r = 1 then (if s = 0 then !t01 else if s = 2 then t12 else t13) else if r = 2 then (if s = 0 then !t02 else if s = 1 then !t12 else t23) else (if s = 0 then !t03 else if s = 1 then !t13 else !t23)
def own_ok (a b c : Bool) : Bool := !(a && b && !c) && !(!a && !b && c)
theorem own_dec : ∀ t01 t02 t03 t12 t13 t23 : Bool, own_ok t01 t12 t02 = true → own_ok t01 t13 t03 = true → own_ok t02 t23 t03 = true → own_ok t12 t23 t13 = true → ∀ r s : Fin 4, r.val ≠ s.val → ((own_c4 t01 t02 t03 t12 t13 t23 r.val < own_c4 t01 t02 t03 t12 t13 t23 s.val ↔ own_r4 t01 t02 t03 t12 t13 t23 r.val s.val = true) ∧ own_c4 t01 t02 t03 t12 t13 t23 r.val < 4) := by decide +kernel
/-- ranks by a key, the earlier first where keys agree -/
def own_rk (g : Nat → Int) (r : Nat) : Nat := own_c4 (decide (g 0 ≤ g 1)) (decide (g 0 ≤ g 2)) (decide (g 0 ≤ g 3)) (decide (g 1 ≤ g 2)) (decide (g 1 ≤ g 3)) (decide (g 2 ≤ g 3)) r
theorem own_okI (a b c : Int) : own_ok (decide (a ≤ b)) (decide (b ≤ c)) (decide (a ≤ c)) = true := by
  unfold own_ok
  by_cases h1 : a ≤ b <;> by_cases h2 : b ≤ c <;> by_cases h3 : a ≤ c <;> simp [h1, h2, h3] <;> omega
theorem own_rkI (g : Nat → Int) (r s : Nat) (hr : r < 4) (hs : s < 4) (hne : r ≠ s) : (own_rk g r < own_rk g s ↔ (g r < g s ∨ (g r = g s ∧ r < s))) ∧ own_rk g r < 4 := by
  have q := own_dec _ _ _ _ _ _ (own_okI (g 0) (g 1) (g 2)) (own_okI (g 0) (g 1) (g 3)) (own_okI (g 0) (g 2) (g 3)) (own_okI (g 1) (g 2) (g 3)) ⟨r, hr⟩ ⟨s, hs⟩ hne
  refine ⟨q.1.trans ?_, q.2⟩
  match r, s, hr, hs, hne with
  | 0, 1, _, _, _ => simp [own_r4]; omega
  | 0, 2, _, _, _ => simp [own_r4]; omega
  | 0, 3, _, _, _ => simp [own_r4]; omega
  | 1, 0, _, _, _ => simp [own_r4]
  | 1, 2, _, _, _ => simp [own_r4]; omega
  | 1, 3, _, _, _ => simp [own_r4]; omega
  | 2, 0, _, _, _ => simp [own_r4]
  | 2, 1, _, _, _ => simp [own_r4]
  | 2, 3, _, _, _ => simp [own_r4]; omega
  | 3, 0, _, _, _ => simp [own_r4]
  | 3, 1, _, _, _ => simp [own_r4]
  | 3, 2, _, _, _ => simp [own_r4]
  | 0, 0, _, _, h => exact absurd rfl h
  | 1, 1, _, _, h => exact absurd rfl h
  | 2, 2, _, _, h => exact absurd rfl h
  | 3, 3, _, _, h => exact absurd rfl h
theorem own_b1 (a b : Nat) : (if b < a then 1 else 0 : Nat) = (!decide ((a : Int) ≤ (b : Int))).toNat := by
  by_cases h : b < a
  · rw [if_pos h, decide_eq_false (by omega)]; rfl
  · rw [if_neg h, decide_eq_true (by omega)]; rfl
theorem own_b2 (a b : Nat) : (if a < b then 1 else 0 : Nat) + (if a = b then 1 else 0) = (decide ((a : Int) ≤ (b : Int))).toNat := by
  by_cases h : a < b
  · rw [if_pos h, if_neg (by omega), decide_eq_true (by omega)]; rfl
  · rw [if_neg h]; by_cases e : a = b
    · rw [if_pos e, decide_eq_true (by omega)]; rfl
    · rw [if_neg e, decide_eq_false (by omega)]; rfl
theorem own_rk4 (g : Nat → Int) (r : Nat) (hr : r < 4) : own_rk g r < 4 := by
  by_cases h : r = 0
  · exact (own_rkI g r 1 hr (by decide) (by omega)).2
  · exact (own_rkI g r 0 hr (by decide) h).2
theorem own_rkne (g : Nat → Int) (r s : Nat) (hr : r < 4) (hs : s < 4) (hne : r ≠ s) : own_rk g r ≠ own_rk g s := fun e => by
  have h1 := (own_rkI g r s hr hs hne).1
  have h2 := (own_rkI g s r hs hr (Ne.symm hne)).1
  rw [e] at h1 h2
  have n1 : ¬ (g r < g s ∨ (g r = g s ∧ r < s)) := fun q => absurd (h1.mpr q) (Nat.lt_irrefl _)
  have n2 : ¬ (g s < g r ∨ (g s = g r ∧ s < r)) := fun q => absurd (h2.mpr q) (Nat.lt_irrefl _)
  omega
theorem own_qne {U : Nat → Int64} {S : Nat} {q : Nat → Nat} (h2 : ∀ i k, i < 4 → k < 4 → i ≠ k → (q i < q k ↔ (own_lw (U i) S < own_lw (U k) S ∨ (own_lw (U i) S = own_lw (U k) S ∧ i < k)))) (i k : Nat) (hi : i < 4) (hk : k < 4) (hne : i ≠ k) : q i ≠ q k := fun e => by
  have a := h2 i k hi hk hne
  have b := h2 k i hk hi (Ne.symm hne)
  rw [e] at a b
  have n1 : ¬ (own_lw (U i) S < own_lw (U k) S ∨ (own_lw (U i) S = own_lw (U k) S ∧ i < k)) := fun z => absurd (a.mpr z) (Nat.lt_irrefl _)
  have n2 : ¬ (own_lw (U k) S < own_lw (U i) S ∨ (own_lw (U k) S = own_lw (U i) S ∧ k < i)) := fun z => absurd (b.mpr z) (Nat.lt_irrefl _)
  omega
theorem own_pass {U : Nat → Int64} {S : Nat} {A : Nat → Int64} {O : Nat → Int32} {b0 b1 b2 b3 P0 P1 P2 P3 : Nat} (I : own_inv U S A O) (e0 : b0 = own_bt (A 0) S) (e1 : b1 = own_bt (A 1) S) (e2 : b2 = own_bt (A 2) S) (e3 : b3 = own_bt (A 3) S)
    (p0 : P0 = own_L b0 b1 b2 b3 b0 + (0)) (p1 : P1 = own_L b0 b1 b2 b3 b1 + ((if b0 = b1 then 1 else 0))) (p2 : P2 = own_L b0 b1 b2 b3 b2 + ((if b0 = b2 then 1 else 0) + (if b1 = b2 then 1 else 0))) (p3 : P3 = own_L b0 b1 b2 b3 b3 + ((if b0 = b3 then 1 else 0) + (if b1 = b3 then 1 else 0) + (if b2 = b3 then 1 else 0))) (UB : Nat → Int64) (OB : Nat → Int32) :
    own_inv U (S + 8) (fun j => if j = P3 then A 3 else if j = P2 then A 2 else if j = P1 then A 1 else if j = P0 then A 0 else UB j) (fun j => if j = P3 then O 3 else if j = P2 then O 2 else if j = P1 then O 1 else if j = P0 then O 0 else OB j) := by
  obtain ⟨g, hg⟩ : ∃ g : Nat → Int, g = fun r => ((own_bt (A r) S : Nat) : Int) := ⟨_, rfl⟩
  have g0 : g 0 = (b0 : Int) := by rw [hg, e0]
  have g1 : g 1 = (b1 : Int) := by rw [hg, e1]
  have g2 : g 2 = (b2 : Int) := by rw [hg, e2]
  have g3 : g 3 = (b3 : Int) := by rw [hg, e3]
  have k0 : P0 = own_rk g 0 := by
    show _ = (!_).toNat + (!_).toNat + (!_).toNat
    rw [g0, g1, g2, g3, p0, ← own_b1 b0 b1, ← own_b1 b0 b2, ← own_b1 b0 b3]; unfold own_L; rw [if_neg (Nat.lt_irrefl b0)]; omega
  have k1 : P1 = own_rk g 1 := by
    show _ = (decide _).toNat + (!_).toNat + (!_).toNat
    rw [g0, g1, g2, g3, p1, ← own_b2 b0 b1, ← own_b1 b1 b2, ← own_b1 b1 b3]; unfold own_L; rw [if_neg (Nat.lt_irrefl b1)]; omega
  have k2 : P2 = own_rk g 2 := by
    show _ = (decide _).toNat + (decide _).toNat + (!_).toNat
    rw [g0, g1, g2, g3, p2, ← own_b2 b0 b2, ← own_b2 b1 b2, ← own_b1 b2 b3]; unfold own_L; rw [if_neg (Nat.lt_irrefl b2)]; omega
  have k3 : P3 = own_rk g 3 := by
    show _ = (decide _).toNat + (decide _).toNat + (decide _).toNat
    rw [g0, g1, g2, g3, p3, ← own_b2 b0 b3, ← own_b2 b1 b3, ← own_b2 b2 b3]; unfold own_L; rw [if_neg (Nat.lt_irrefl b3)]; omega
  clear p0 p1 p2 p3
  have n01 := own_rkne g 0 1 (by decide) (by decide) (by decide)
  have n02 := own_rkne g 0 2 (by decide) (by decide) (by decide)
  have n03 := own_rkne g 0 3 (by decide) (by decide) (by decide)
  have n12 := own_rkne g 1 2 (by decide) (by decide) (by decide)
  have n13 := own_rkne g 1 3 (by decide) (by decide) (by decide)
  have n23 := own_rkne g 2 3 (by decide) (by decide) (by decide)
  rw [k0, k1, k2, k3]
  have rd : ∀ {α : Type} (F : Nat → α) (G : Nat → α) (r : Nat), r < 4 → (if own_rk g r = own_rk g 3 then F 3 else if own_rk g r = own_rk g 2 then F 2 else if own_rk g r = own_rk g 1 then F 1 else if own_rk g r = own_rk g 0 then F 0 else G (own_rk g r)) = F r := fun F G r hr => by
    match r, hr with
    | 0, _ => rw [if_neg n03, if_neg n02, if_neg n01, if_pos rfl]
    | 1, _ => rw [if_neg n13, if_neg n12, if_pos rfl]
    | 2, _ => rw [if_neg n23, if_pos rfl]
    | 3, _ => rw [if_pos rfl]
  obtain ⟨q, h1, h2⟩ := I
  refine ⟨fun i => own_rk g (q i), fun i hi => ?_, fun i k hi hk hne => ?_⟩
  · obtain ⟨a, b, c⟩ := h1 i hi
    exact ⟨own_rk4 g _ a, (rd A UB _ a).trans b, (rd O OB _ a).trans c⟩
  · obtain ⟨ai, bi, -⟩ := h1 i hi
    obtain ⟨ak, bk, -⟩ := h1 k hk
    have hq := own_qne h2 i k hi hk hne
    refine (own_rkI g (q i) (q k) ai ak hq).1.trans ?_
    have gi : g (q i) = ((own_bt (U i) S : Nat) : Int) := by rw [hg]; show ((own_bt (A (q i)) S : Nat) : Int) = _; rw [bi]
    have gk : g (q k) = ((own_bt (U k) S : Nat) : Int) := by rw [hg]; show ((own_bt (A (q k)) S : Nat) : Int) = _; rw [bk]
    rw [gi, gk, h2 i k hi hk hne, (own_lex (U i) (U k) S).1, (own_lex (U i) (U k) S).2]
    generalize own_bt (U i) S = x
    generalize own_bt (U k) S = y
    generalize own_lw (U i) S = z
    generalize own_lw (U k) S = t
    omega
theorem own_rank : ∀ q0 q1 q2 q3 : Fin 4, q0 ≠ q1 → q0 ≠ q2 → q0 ≠ q3 → q1 ≠ q2 → q1 ≠ q3 → q2 ≠ q3 → (q0.val = (decide (q1.val < q0.val)).toNat + (decide (q2.val < q0.val)).toNat + (decide (q3.val < q0.val)).toNat ∧ q1.val = (decide (q0.val < q1.val)).toNat + (decide (q2.val < q1.val)).toNat + (decide (q3.val < q1.val)).toNat ∧ q2.val = (decide (q0.val < q2.val)).toNat + (decide (q1.val < q2.val)).toNat + (decide (q3.val < q2.val)).toNat ∧ q3.val = (decide (q0.val < q3.val)).toNat + (decide (q1.val < q3.val)).toNat + (decide (q2.val < q3.val)).toNat) := by decide +kernel
theorem own_bef {P : Prop} [Decidable P] {b : Bool} (h : b = true ↔ P) : (if P then (1 : Int32) else 0) = own_n b.toNat := by
  cases b
  · rw [if_neg (fun p => absurd (h.mpr p) (by decide))]; rfl
  · rw [if_pos (h.mp rfl)]; rfl
/-- what the sorted order says of the places -/
theorem own_end {U : Nat → Int64} {A : Nat → Int64} {O : Nat → Int32} {r0 r1 r2 r3 : Int64} (I : own_inv U 64 A O) (r : Nat → Int64) (hr0 : r 0 = r0) (hr1 : r 1 = r1) (hr2 : r 2 = r2) (hr3 : r 3 = r3)
    (ho : ∀ i k, i < 4 → k < 4 → ((own_lw (U i) 64 < own_lw (U k) 64 ↔ r i < r k) ∧ (own_lw (U i) 64 = own_lw (U k) 64 ↔ r i = r k))) : (∃ N : Nat, (((if r1 < r0 ∨ (r1 = r0 ∧ (1 : Int32) < (0 : Int32)) then (1 : Int32) else 0) + (if r2 < r0 ∨ (r2 = r0 ∧ (2 : Int32) < (0 : Int32)) then (1 : Int32) else 0)) + (if r3 < r0 ∨ (r3 = r0 ∧ (3 : Int32) < (0 : Int32)) then (1 : Int32) else 0)).toInt = (N : Int) ∧ N < 4 ∧ O N = Int32.ofNat 0) ∧ (∃ N : Nat, (((if r0 < r1 ∨ (r0 = r1 ∧ (0 : Int32) < (1 : Int32)) then (1 : Int32) else 0) + (if r2 < r1 ∨ (r2 = r1 ∧ (2 : Int32) < (1 : Int32)) then (1 : Int32) else 0)) + (if r3 < r1 ∨ (r3 = r1 ∧ (3 : Int32) < (1 : Int32)) then (1 : Int32) else 0)).toInt = (N : Int) ∧ N < 4 ∧ O N = Int32.ofNat 1) ∧ (∃ N : Nat, (((if r0 < r2 ∨ (r0 = r2 ∧ (0 : Int32) < (2 : Int32)) then (1 : Int32) else 0) + (if r1 < r2 ∨ (r1 = r2 ∧ (1 : Int32) < (2 : Int32)) then (1 : Int32) else 0)) + (if r3 < r2 ∨ (r3 = r2 ∧ (3 : Int32) < (2 : Int32)) then (1 : Int32) else 0)).toInt = (N : Int) ∧ N < 4 ∧ O N = Int32.ofNat 2) ∧ (∃ N : Nat, (((if r0 < r3 ∨ (r0 = r3 ∧ (0 : Int32) < (3 : Int32)) then (1 : Int32) else 0) + (if r1 < r3 ∨ (r1 = r3 ∧ (1 : Int32) < (3 : Int32)) then (1 : Int32) else 0)) + (if r2 < r3 ∨ (r2 = r3 ∧ (2 : Int32) < (3 : Int32)) then (1 : Int32) else 0)).toInt = (N : Int) ∧ N < 4 ∧ O N = Int32.ofNat 3) := by
  obtain ⟨q, h1, h2⟩ := I
  have L : ∀ i k, i < 4 → k < 4 → i ≠ k → (q i < q k ↔ (r i < r k ∨ (r i = r k ∧ i < k))) := fun i k hi hk hne => by rw [h2 i k hi hk hne, (ho i k hi hk).1, (ho i k hi hk).2]
  have ne := own_qne h2
  obtain ⟨a0, -, c0⟩ := h1 0 (by decide)
  obtain ⟨a1, -, c1⟩ := h1 1 (by decide)
  obtain ⟨a2, -, c2⟩ := h1 2 (by decide)
  obtain ⟨a3, -, c3⟩ := h1 3 (by decide)
  have fne : ∀ i k (hi : q i < 4) (hk : q k < 4), q i ≠ q k → (⟨q i, hi⟩ : Fin 4) ≠ ⟨q k, hk⟩ := fun i k hi hk h e => h (congrArg Fin.val e)
  obtain ⟨k0, k1, k2, k3⟩ := own_rank ⟨q 0, a0⟩ ⟨q 1, a1⟩ ⟨q 2, a2⟩ ⟨q 3, a3⟩ (fne _ _ _ _ (ne 0 1 (by decide) (by decide) (by decide))) (fne _ _ _ _ (ne 0 2 (by decide) (by decide) (by decide))) (fne _ _ _ _ (ne 0 3 (by decide) (by decide) (by decide))) (fne _ _ _ _ (ne 1 2 (by decide) (by decide) (by decide))) (fne _ _ _ _ (ne 1 3 (by decide) (by decide) (by decide))) (fne _ _ _ _ (ne 2 3 (by decide) (by decide) (by decide)))
  simp only at k0 k1 k2 k3
  subst hr0 hr1 hr2 hr3
  have B : ∀ (k i : Nat) (zk zi : Int32), k < 4 → i < 4 → k ≠ i → (zk < zi ↔ k < i) → (if r k < r i ∨ (r k = r i ∧ zk < zi) then (1 : Int32) else 0) = own_n (decide (q k < q i)).toNat := fun k i zk zi hk hi hne hz => own_bef (by rw [decide_eq_true_iff, L k i hk hi hne, hz])
  have T : ∀ (x y z : Bool), ((own_n x.toNat + own_n y.toNat) + own_n z.toNat).toInt = ((x.toNat + y.toNat + z.toNat : Nat) : Int) := fun x y z => by cases x <;> cases y <;> cases z <;> rfl
  refine ⟨⟨q 0, ?_, a0, c0⟩, ⟨q 1, ?_, a1, c1⟩, ⟨q 2, ?_, a2, c2⟩, ⟨q 3, ?_, a3, c3⟩⟩
  · rw [B 1 0 1 0 (by decide) (by decide) (by decide) (by decide), B 2 0 2 0 (by decide) (by decide) (by decide) (by decide), B 3 0 3 0 (by decide) (by decide) (by decide) (by decide), T]; exact congrArg _ k0.symm
  · rw [B 0 1 0 1 (by decide) (by decide) (by decide) (by decide), B 2 1 2 1 (by decide) (by decide) (by decide) (by decide), B 3 1 3 1 (by decide) (by decide) (by decide) (by decide), T]; exact congrArg _ k1.symm
  · rw [B 0 2 0 2 (by decide) (by decide) (by decide) (by decide), B 1 2 1 2 (by decide) (by decide) (by decide) (by decide), B 3 2 3 2 (by decide) (by decide) (by decide) (by decide), T]; exact congrArg _ k2.symm
  · rw [B 0 3 0 3 (by decide) (by decide) (by decide) (by decide), B 1 3 1 3 (by decide) (by decide) (by decide) (by decide), B 2 3 2 3 (by decide) (by decide) (by decide) (by decide), T]; exact congrArg _ k3.symm
theorem own_knn (y : Int64) (m : Int32) : Jvm.Free.Fl.NoNaN64 (if m = 0 then FP.l2d y else FP.dneg (FP.l2d y)) := by
  have h : Jvm.Free.Fl.NoNaN64 (FP.l2d y) := (Jvm.Free.Fl.l2d_fin y).noNaN
  by_cases e : m = 0
  · rw [if_pos e]; exact h
  · rw [if_neg e]; exact (Jvm.Free.Fl.dneg_iff _).mpr h
theorem own_xor63 {k : Nat} (h : k < 2 ^ 63) : k ^^^ 2 ^ 63 = 2 ^ 63 + k := by
  refine Nat.eq_of_testBit_eq fun i => ?_
  rw [Nat.testBit_xor, Nat.testBit_two_pow]
  by_cases a : i < 63
  · rw [Nat.testBit_two_pow_add_gt a, decide_eq_false (by omega)]; simp
  · by_cases b : i = 63
    · subst b; rw [Nat.testBit_two_pow_add_eq, Nat.testBit_lt_two_pow h]; simp
    · have h2 : 2 ^ 64 ≤ 2 ^ i := Nat.pow_le_pow_right (by decide) (by omega)
      rw [Nat.testBit_lt_two_pow (show k < 2 ^ i by omega), Nat.testBit_lt_two_pow (show 2 ^ 63 + k < 2 ^ i by omega), decide_eq_false (by omega)]; rfl
theorem own_uN (K : UInt64) : (own_u K).toBitVec.toNat = if K.toNat < 2 ^ 63 then 2 ^ 63 + K.toNat else 2 ^ 64 - 1 - K.toNat := by
  have e0 : (own_u K).toBitVec = K.toBitVec ^^^ (K.toBitVec.sshiftRight 63 ||| (9223372036854775808#64)) := rfl
  rw [e0]
  have hk : K.toBitVec.toNat = K.toNat := rfl
  have hlt := K.toBitVec.isLt
  by_cases h : K.toNat < 2 ^ 63
  · rw [if_pos h]
    have hm : K.toBitVec.msb = false := by rw [BitVec.msb_eq_decide]; exact decide_eq_false (by rw [hk]; show ¬ 2 ^ 63 ≤ _; omega)
    have hs : K.toBitVec.sshiftRight 63 = 0#64 := by
      rw [BitVec.sshiftRight_eq_of_msb_false hm]
      refine BitVec.eq_of_toNat_eq ?_
      rw [BitVec.toNat_ushiftRight, Nat.shiftRight_eq_div_pow, hk]
      show _ = 0
      omega
    rw [hs, BitVec.zero_or, BitVec.toNat_xor, hk]
    exact own_xor63 h
  · rw [if_neg h]
    have hm : K.toBitVec.msb = true := by rw [BitVec.msb_eq_decide]; exact decide_eq_true (by rw [hk]; show 2 ^ 63 ≤ _; omega)
    have hs : K.toBitVec.sshiftRight 63 = BitVec.allOnes 64 := by
      rw [BitVec.sshiftRight_eq_of_msb_true hm]
      have z : (~~~K.toBitVec) >>> 63 = 0#64 := by
        refine BitVec.eq_of_toNat_eq ?_
        rw [BitVec.toNat_ushiftRight, Nat.shiftRight_eq_div_pow, BitVec.toNat_not, hk]
        show _ = 0
        omega
      rw [z]; rfl
    rw [hs, BitVec.allOnes_or, BitVec.xor_allOnes, BitVec.toNat_not, hk]
section Flt
open Jvm.FP.Core
theorem own_enc {a : UInt64} {s : Bool} {c : Nat} {q : Int} (h : val64 a = .fin s c q) (hc : b64.tails ≤ c) : a.toNat = (s.toNat * 2048 + ((q - b64.qmin).toNat + 1)) * 2 ^ 52 + (c - 2 ^ 52) := by
  have e := encode_decode good_b64 a.toNat (by have := a.toBitVec.isLt; show a.toNat < 2 ^ 64; exact this) (by show val64 a ≠ _; rw [h]; intro z; cases z)
  have e2 : encode b64 (val64 a) = a.toNat := e
  rw [h] at e2
  rw [← e2]
  show (if c < b64.tails then _ else _) = _
  rw [if_neg (by omega)]
  rfl
/-- the bits of a small whole number that isn't 0 -/
theorem own_beta {y : Int64} (hy : own_sm y) (h0 : y.toInt ≠ 0) : ∃ d c : Nat, c = y.toInt.natAbs * 2 ^ d ∧ 2 ^ 52 ≤ c ∧ c < 2 ^ 53 ∧ d ≤ 1074 ∧ (FP.l2d y).toNat = (if y.toInt < 0 then 2 ^ 63 else 0) + ((1075 - d) * 2 ^ 52 + (c - 2 ^ 52)) := by
  unfold own_sm at hy
  obtain ⟨c, q, h⟩ := l2d_shape y
  have hw := l2d_whole (a := y) ⟨by omega, by omega⟩
  rw [h] at hw
  have hfit := val64_fits (l2d y)
  rw [h] at hfit
  obtain ⟨f1, f2, f3, f4⟩ := hfit
  have hp : c < 2 ^ 53 := f1
  have hqm : b64.qmin = -1074 := by decide
  have htl : b64.tails = 2 ^ 52 := by decide
  have hw3 : c * 2 ^ q.toNat = y.toInt.natAbs * 2 ^ (-q).toNat := by
    have hw2 : signed (decide (y.toInt < 0)) (c * 2 ^ q.toNat) = y.toInt * ((2 ^ (-q).toNat : Nat) : Int) := hw
    have := congrArg Int.natAbs hw2
    rw [Int.natAbs_mul, Int.natAbs_natCast] at this
    rw [← this]
    by_cases z : y.toInt < 0
    · rw [decide_eq_true z]; show _ = Int.natAbs (-((c * 2 ^ q.toNat : Nat) : Int)); omega
    · rw [decide_eq_false z]; show _ = Int.natAbs ((c * 2 ^ q.toNat : Nat) : Int); omega
  have hn : 0 < y.toInt.natAbs := by omega
  have hn52 : y.toInt.natAbs ≤ 2 ^ 52 := by omega
  have hct : 2 ^ 52 ≤ c := by
    rcases f4 with f4 | f4
    · exfalso
      rw [f4, hqm] at hw3
      have big : 2 ^ 60 ≤ 2 ^ (-(-1074 : Int)).toNat := Nat.pow_le_pow_right (by decide) (by decide)
      have e0 : (-1074 : Int).toNat = 0 := by decide
      rw [e0, Nat.pow_zero, Nat.mul_one] at hw3
      have : 1 * 2 ^ (-(-1074 : Int)).toNat ≤ y.toInt.natAbs * 2 ^ (-(-1074 : Int)).toNat := Nat.mul_le_mul_right _ hn
      omega
    · rw [htl] at f4; exact f4
  have hq0 : q ≤ 0 := by
    apply Classical.byContradiction
    intro hq
    have e0 : (-q).toNat = 0 := by omega
    rw [e0, Nat.pow_zero, Nat.mul_one] at hw3
    have : 2 ^ 1 ≤ 2 ^ q.toNat := Nat.pow_le_pow_right (by decide) (by omega)
    have : 2 ^ 52 * 2 ^ 1 ≤ c * 2 ^ q.toNat := Nat.mul_le_mul hct this
    omega
  have e0 : q.toNat = 0 := by omega
  rw [e0, Nat.pow_zero, Nat.mul_one] at hw3
  refine ⟨(-q).toNat, c, hw3, hct, hp, by omega, ?_⟩
  have e := own_enc h (by rw [htl]; exact hct)
  have eq1 : (q - b64.qmin).toNat + 1 = 1075 - (-q).toNat := by rw [hqm]; omega
  show (l2d y).toNat = _
  rw [e, eq1]
  by_cases z : y.toInt < 0
  · rw [decide_eq_true z, if_pos z]; show (1 * 2048 + _) * 2 ^ 52 + _ = _; rw [Nat.add_mul]; omega
  · rw [decide_eq_false z, if_neg z]; show (0 * 2048 + _) * 2 ^ 52 + _ = _; rw [Nat.add_mul]; omega
end Flt
/-- the magnitudes' bits grow with them -/
theorem own_mono {n n' d d' c c' : Nat} (h : n < n') (e : c = n * 2 ^ d) (e' : c' = n' * 2 ^ d') (h1 : 2 ^ 52 ≤ c) (h2 : c < 2 ^ 53) (h1' : 2 ^ 52 ≤ c') (h2' : c' < 2 ^ 53) (hd : d ≤ 1074) (hd' : d' ≤ 1074) : (1075 - d) * 2 ^ 52 + (c - 2 ^ 52) < (1075 - d') * 2 ^ 52 + (c' - 2 ^ 52) := by
  have hdd : d' ≤ d := by
    apply Classical.byContradiction
    intro q
    have p1 : 2 ^ (d + 1) ≤ 2 ^ d' := Nat.pow_le_pow_right (by decide) (by omega)
    have p2 : n' * 2 ^ (d + 1) ≤ n' * 2 ^ d' := Nat.mul_le_mul_left _ p1
    have p3 : n * 2 ^ (d + 1) ≤ n' * 2 ^ (d + 1) := Nat.mul_le_mul_right _ (by omega)
    rw [Nat.pow_succ, ← Nat.mul_assoc, ← e] at p3
    rw [Nat.pow_succ] at p2
    rw [← e'] at p2
    have p4 : n * 2 ^ d * 2 ≤ n' * (2 ^ d * 2) := by rw [← e, ← Nat.mul_assoc]; rw [← Nat.mul_assoc] at p3; exact p3
    rw [← e] at p4
    omega
  rcases Nat.lt_or_eq_of_le hdd with q | q
  · have p : (1075 - d + 1) * 2 ^ 52 ≤ (1075 - d') * 2 ^ 52 := Nat.mul_le_mul_right _ (by omega)
    rw [Nat.add_mul] at p
    omega
  · subst q
    have : c < c' := by rw [e, e']; exact Nat.mul_lt_mul_of_pos_right h (Nat.two_pow_pos _)
    omega
theorem own_code {y : Int64} (hy : own_sm y) : (((2 : Int64) * y) + (1 : Int64)).toInt = 2 * y.toInt + 1 ∧ ((2 : Int64) * y).toInt = 2 * y.toInt := by
  unfold own_sm at hy
  have e2 : (2 : Int64).toInt = 2 := rfl
  have e1 : (1 : Int64).toInt = 1 := rfl
  have m : ((2 : Int64) * y).toInt = 2 * y.toInt := by rw [Int64.toInt_mul, e2, Int.bmod_eq_of_le (by omega) (by omega)]
  exact ⟨by rw [Int64.toInt_add, m, e1, Int.bmod_eq_of_le (by omega) (by omega)], m⟩
/-- the mapped bits of a key, said by cases -/
theorem own_W {y : Int64} {m : Int32} (hy : own_sm y) (hm : own_zf m y) : ∃ W R : Int, ((own_u (if m = 0 then FP.l2d y else FP.dneg (FP.l2d y))).toBitVec.toNat : Int) = W ∧ (if m = 0 then ((2 : Int64) * y) + (1 : Int64) else (2 : Int64) * y).toInt = R ∧
    ((R = 0 ∧ W = 2 ^ 63 - 1) ∨ (R = 1 ∧ W = 2 ^ 63) ∨ (∃ n d c : Nat, 0 < n ∧ R = 2 * (n : Int) + 1 ∧ c = n * 2 ^ d ∧ 2 ^ 52 ≤ c ∧ c < 2 ^ 53 ∧ d ≤ 1074 ∧ W = 2 ^ 63 + (((1075 - d) * 2 ^ 52 + (c - 2 ^ 52) : Nat) : Int)) ∨ (∃ n d c : Nat, 0 < n ∧ R = 1 - 2 * (n : Int) ∧ c = n * 2 ^ d ∧ 2 ^ 52 ≤ c ∧ c < 2 ^ 53 ∧ d ≤ 1074 ∧ W = 2 ^ 63 - 1 - (((1075 - d) * 2 ^ 52 + (c - 2 ^ 52) : Nat) : Int))) := by
  refine ⟨_, _, rfl, rfl, ?_⟩
  rcases hm with rfl | ⟨rfl, rfl⟩
  · rw [if_pos rfl, if_pos rfl, (own_code hy).1, own_uN]
    by_cases z : y.toInt = 0
    · have : y = 0 := Int64.toInt_inj.mp z
      subst this
      right; left
      exact ⟨rfl, by rw [l2d_zero]; rfl⟩
    · obtain ⟨d, c, e1, e2, e3, e4, e5⟩ := own_beta hy z
      have hb : (1075 - d) * 2 ^ 52 + (c - 2 ^ 52) < 2 ^ 63 := by
        have : (1075 - d) * 2 ^ 52 ≤ 1075 * 2 ^ 52 := Nat.mul_le_mul_right _ (by omega)
        omega
      by_cases s : y.toInt < 0
      · right; right; right
        rw [if_pos s] at e5
        rw [e5, if_neg (by omega)]
        exact ⟨y.toInt.natAbs, d, c, by omega, by omega, e1, e2, e3, e4, by omega⟩
      · right; right; left
        rw [if_neg s, Nat.zero_add] at e5
        rw [e5, if_pos hb]
        exact ⟨y.toInt.natAbs, d, c, by omega, by omega, e1, e2, e3, e4, by omega⟩
  · left
    rw [if_neg (by decide), if_neg (by decide), own_uN]
    exact ⟨rfl, by rw [l2d_zero]; rfl⟩
theorem own_pair {y y' : Int64} {m m' : Int32} (hy : own_sm y) (hm : own_zf m y) (hy' : own_sm y') (hm' : own_zf m' y') {u u' r r' : Int64} (eu : u = own_u (if m = 0 then FP.l2d y else FP.dneg (FP.l2d y))) (eu' : u' = own_u (if m' = 0 then FP.l2d y' else FP.dneg (FP.l2d y')))
    (er : r = if m = 0 then ((2 : Int64) * y) + (1 : Int64) else (2 : Int64) * y) (er' : r' = if m' = 0 then ((2 : Int64) * y') + (1 : Int64) else (2 : Int64) * y') : (own_lw u 64 < own_lw u' 64 ↔ r < r') ∧ (own_lw u 64 = own_lw u' 64 ↔ r = r') := by
  obtain ⟨W, R, hW, hR, h⟩ := own_W hy hm
  obtain ⟨W', R', hW', hR', h'⟩ := own_W hy' hm'
  rw [← eu] at hW; rw [← eu'] at hW'; rw [← er] at hR; rw [← er'] at hR'
  have l1 : own_lw u 64 = u.toBitVec.toNat := Nat.mod_eq_of_lt u.toBitVec.isLt
  have l2 : own_lw u' 64 = u'.toBitVec.toNat := Nat.mod_eq_of_lt u'.toBitVec.isLt
  rw [l1, l2, Int64.lt_iff_toInt_lt, ← Int64.toInt_inj, hR, hR']
  have big : ∀ {d c : Nat}, d ≤ 1074 → 2 ^ 52 ≤ c → 0 < (1075 - d) * 2 ^ 52 + (c - 2 ^ 52) := fun {d c} hd hc => by
    have : 1 * 2 ^ 52 ≤ (1075 - d) * 2 ^ 52 := Nat.mul_le_mul_right _ (by omega)
    omega
  have key : (R < R' → W < W') ∧ (R' < R → W' < W) := by
    rcases h with ⟨a, b⟩ | ⟨a, b⟩ | ⟨n, d, c, a0, a, a1, a2, a3, a4, b⟩ | ⟨n, d, c, a0, a, a1, a2, a3, a4, b⟩ <;> rcases h' with ⟨a', b'⟩ | ⟨a', b'⟩ | ⟨n', d', c', a0', a', a1', a2', a3', a4', b'⟩ | ⟨n', d', c', a0', a', a1', a2', a3', a4', b'⟩
    all_goals first | (constructor <;> intro q <;> omega) | skip
    all_goals first | (have g1 := big a4 a2; constructor <;> intro q <;> omega) | skip
    all_goals first | (have g1 := big a4' a2'; constructor <;> intro q <;> omega) | skip
    all_goals first | (have g1 := big a4 a2; have g2 := big a4' a2'; constructor <;> intro q <;> omega) | skip
    all_goals constructor <;> intro q
    · have := own_mono (show n < n' by omega) a1 a1' a2 a3 a2' a3' a4 a4'; omega
    · have := own_mono (show n' < n by omega) a1' a1 a2' a3' a2 a3 a4' a4; omega
    · have := own_mono (show n' < n by omega) a1' a1 a2' a3' a2 a3 a4' a4; omega
    · have := own_mono (show n < n' by omega) a1 a1' a2 a3 a2' a3' a4 a4'; omega
  have eqq : R = R' → W = W' := fun q => by
    rw [← hR, ← hR'] at q
    have rr : r = r' := Int64.toInt_inj.mp q
    have c1 := own_code hy
    have c2 := own_code hy'
    rw [er, er'] at q
    have hh : y = y' ∧ m = m' := by
      rcases hm with rfl | ⟨rfl, rfl⟩ <;> rcases hm' with rfl | ⟨rfl, rfl⟩
      · rw [if_pos rfl, if_pos rfl, c1.1, c2.1] at q; exact ⟨Int64.toInt_inj.mp (by omega), rfl⟩
      · rw [if_pos rfl, if_neg (by decide), c1.1, c2.2] at q; omega
      · rw [if_neg (by decide), if_pos rfl, c1.2, c2.1] at q; omega
      · exact ⟨rfl, rfl⟩
    obtain ⟨rfl, rfl⟩ := hh
    rw [← hW, ← hW', eu, eu']
  constructor
  · constructor
    · intro q
      apply Classical.byContradiction
      intro n
      rcases Int.lt_or_eq_of_le (Int.not_lt.mp n) with z | z
      · have := key.2 z; omega
      · have := eqq z.symm; omega
    · intro q; have := key.1 q; omega
  · constructor
    · intro q
      apply Classical.byContradiction
      intro n
      rcases Int.lt_or_gt_of_ne n with z | z
      · have := key.1 z; omega
      · have := key.2 z; omega
    · intro q; have := eqq q; omega
theorem own_res {y0 y1 y2 y3 : Int64} {m0 m1 m2 m3 : Int32} {r0 r1 r2 r3 : Int64} {A : Nat → Int64} {O : Nat → Int32} (hy0 : own_sm y0) (hy1 : own_sm y1) (hy2 : own_sm y2) (hy3 : own_sm y3) (h0 : own_zf m0 y0) (h1 : own_zf m1 y1) (h2 : own_zf m2 y2) (h3 : own_zf m3 y3)
    (e0 : r0 = (if m0 = 0 then ((2 : Int64) * y0) + (1 : Int64) else (2 : Int64) * y0)) (e1 : r1 = (if m1 = 0 then ((2 : Int64) * y1) + (1 : Int64) else (2 : Int64) * y1)) (e2 : r2 = (if m2 = 0 then ((2 : Int64) * y2) + (1 : Int64) else (2 : Int64) * y2)) (e3 : r3 = (if m3 = 0 then ((2 : Int64) * y3) + (1 : Int64) else (2 : Int64) * y3)) (I : own_inv (fun j => if j = 0 then own_u (if m0 = 0 then FP.l2d y0 else FP.dneg (FP.l2d y0)) else if j = 1 then own_u (if m1 = 0 then FP.l2d y1 else FP.dneg (FP.l2d y1)) else if j = 2 then own_u (if m2 = 0 then FP.l2d y2 else FP.dneg (FP.l2d y2)) else own_u (if m3 = 0 then FP.l2d y3 else FP.dneg (FP.l2d y3)) : Nat → Int64) 64 A O) : (∃ N : Nat, (((if r1 < r0 ∨ (r1 = r0 ∧ (1 : Int32) < (0 : Int32)) then (1 : Int32) else 0) + (if r2 < r0 ∨ (r2 = r0 ∧ (2 : Int32) < (0 : Int32)) then (1 : Int32) else 0)) + (if r3 < r0 ∨ (r3 = r0 ∧ (3 : Int32) < (0 : Int32)) then (1 : Int32) else 0)).toInt = (N : Int) ∧ N < 4 ∧ O N = Int32.ofNat 0) ∧ (∃ N : Nat, (((if r0 < r1 ∨ (r0 = r1 ∧ (0 : Int32) < (1 : Int32)) then (1 : Int32) else 0) + (if r2 < r1 ∨ (r2 = r1 ∧ (2 : Int32) < (1 : Int32)) then (1 : Int32) else 0)) + (if r3 < r1 ∨ (r3 = r1 ∧ (3 : Int32) < (1 : Int32)) then (1 : Int32) else 0)).toInt = (N : Int) ∧ N < 4 ∧ O N = Int32.ofNat 1) ∧ (∃ N : Nat, (((if r0 < r2 ∨ (r0 = r2 ∧ (0 : Int32) < (2 : Int32)) then (1 : Int32) else 0) + (if r1 < r2 ∨ (r1 = r2 ∧ (1 : Int32) < (2 : Int32)) then (1 : Int32) else 0)) + (if r3 < r2 ∨ (r3 = r2 ∧ (3 : Int32) < (2 : Int32)) then (1 : Int32) else 0)).toInt = (N : Int) ∧ N < 4 ∧ O N = Int32.ofNat 2) ∧ (∃ N : Nat, (((if r0 < r3 ∨ (r0 = r3 ∧ (0 : Int32) < (3 : Int32)) then (1 : Int32) else 0) + (if r1 < r3 ∨ (r1 = r3 ∧ (1 : Int32) < (3 : Int32)) then (1 : Int32) else 0)) + (if r2 < r3 ∨ (r2 = r3 ∧ (2 : Int32) < (3 : Int32)) then (1 : Int32) else 0)).toInt = (N : Int) ∧ N < 4 ∧ O N = Int32.ofNat 3) := by
  refine own_end I (fun j => if j = 0 then r0 else if j = 1 then r1 else if j = 2 then r2 else r3) rfl rfl rfl rfl ?_
  have P : ∀ i, i < 4 → ∃ (y : Int64) (m : Int32), own_sm y ∧ own_zf m y ∧ (fun j => if j = 0 then own_u (if m0 = 0 then FP.l2d y0 else FP.dneg (FP.l2d y0)) else if j = 1 then own_u (if m1 = 0 then FP.l2d y1 else FP.dneg (FP.l2d y1)) else if j = 2 then own_u (if m2 = 0 then FP.l2d y2 else FP.dneg (FP.l2d y2)) else own_u (if m3 = 0 then FP.l2d y3 else FP.dneg (FP.l2d y3)) : Nat → Int64) i = own_u (if m = 0 then FP.l2d y else FP.dneg (FP.l2d y)) ∧ (fun j => if j = 0 then r0 else if j = 1 then r1 else if j = 2 then r2 else r3 : Nat → Int64) i = (if m = 0 then ((2 : Int64) * y) + (1 : Int64) else (2 : Int64) * y) := fun i hi => by
    match i, hi with
    | 0, _ => exact ⟨y0, m0, hy0, h0, rfl, e0⟩
    | 1, _ => exact ⟨y1, m1, hy1, h1, rfl, e1⟩
    | 2, _ => exact ⟨y2, m2, hy2, h2, rfl, e2⟩
    | 3, _ => exact ⟨y3, m3, hy3, h3, rfl, e3⟩
  intro i k hi hk
  obtain ⟨y, m, a, b, c, d⟩ := P i hi
  obtain ⟨y', m', a', b', c', d'⟩ := P k hk
  exact own_pair a b a' b' c c' d d'
theorem pn_1 : plainName "com/example/pactline/pactline/model/SortingAscendingPinLaw" = true := by first | (simp [plainName, overriddenIn]; done) | decide +kernel
theorem ef_rmKey (m : MethodId) (x0 : Int64) (x1 : Int32) : entryFrame m #[(.long x0), (.int x1)] 5 = mkF m 0 #[.val (.long x0), .second, .val (.int x1), .unset, .unset] [] := by first | (simp [entryFrame, mkF, argsToLocals, Value.category]; done) | rfl
set_option maxRecDepth 65536 in
set_option maxHeartbeats 40000000 in
theorem rmKey (l : Launch) (Z : State) (a0 : Array Value) (hw : ∀ d ∈ tables_1, d.before a0 Z = true) (h0 : Heap) (n0 : Nat) (Z0 : n0 ≤ h0.size) (y : Int64) (b : Int32) :
    KCt false l (⟨"com/example/pactline/pactline/model/SortingAscendingPinLaw", "key", "(JZ)D"⟩ : MethodName) method_3_code 5 (some .double) ({ frames := 0, cells := 0, slots := 0, locals := 0 } : Room) Z n0 h0 #[(.long y), (.int b)] [] (fun v h => v = some (.double (if b = 0 then FP.l2d y else FP.dneg (FP.l2d y))) ∧ h0 = h) := by
  refine k_enter (tbl := tables_1) (a0 := a0) (Ls := #[.val (.long y), .second, .val (.int b), .unset, .unset]) (plainFor_of_name pn_1) hw Z0 (fun m => ef_rmKey m y b) ?_
  intro p e s m below meth c T C P
  refine k_lloadN (pc' := 1) C P d1_0 rfl rfl ?_
  refine k_l2d (pc' := 2) C P d1_1 rfl ?_
  refine k_dstoreN (l' := #[.val (.long y), .second, .val (.int b), .val (.double (FP.l2d y)), .second]) (pc' := 3) C P d1_2 rfl rfl ?_
  refine k_iloadN (pc' := 4) C P d1_3 rfl rfl ?_
  refine k_ifB (pcY := 12) (pcN := 7) C P d1_4 (by decide) (by decide) rfl ?_ ?_
  · intro (hc4 : b = (0 : Int32))
    refine k_dloadN (pc' := 13) C P d1_12 rfl rfl ?_
    exact k_retD C P d1_13 (by decide) (by decide) ⟨by rw [if_pos hc4], rfl⟩
  · intro (hc4 : ¬ b = (0 : Int32))
    refine k_dloadN (pc' := 8) C P d1_7 rfl rfl ?_
    refine k_dneg (pc' := 9) C P d1_8 rfl ?_
    refine k_goto (pc' := 13) C P d1_9 (by decide) (by decide) ?_
    exact k_retD C P d1_13 (by decide) (by decide) ⟨by rw [if_neg hc4], rfl⟩
theorem pn_2 : plainName "com/example/pactline/pactline/model/SortingAscendingPinLaw" = true := by first | (simp [plainName, overriddenIn]; done) | decide +kernel
theorem ef_rmCode (m : MethodId) (x0 : Int64) (x1 : Int32) : entryFrame m #[(.long x0), (.int x1)] 3 = mkF m 0 #[.val (.long x0), .second, .val (.int x1)] [] := by first | (simp [entryFrame, mkF, argsToLocals, Value.category]; done) | rfl
set_option maxRecDepth 65536 in
set_option maxHeartbeats 40000000 in
theorem rmCode (l : Launch) (Z : State) (a0 : Array Value) (hw : ∀ d ∈ tables_1, d.before a0 Z = true) (h0 : Heap) (n0 : Nat) (Z0 : n0 ≤ h0.size) (y : Int64) (b : Int32) :
    KCt false l (⟨"com/example/pactline/pactline/model/SortingAscendingPinLaw", "code", "(JZ)J"⟩ : MethodName) method_4_code 3 (some .long) ({ frames := 0, cells := 0, slots := 0, locals := 0 } : Room) Z n0 h0 #[(.long y), (.int b)] [] (fun v h => v = some (.long (if b = 0 then ((2 : Int64) * y) + (1 : Int64) else (2 : Int64) * y)) ∧ h0 = h) := by
  refine k_enter (tbl := tables_1) (a0 := a0) (Ls := #[.val (.long y), .second, .val (.int b)]) (plainFor_of_name pn_2) hw Z0 (fun m => ef_rmCode m y b) ?_
  intro p e s m below meth c T C P
  refine k_iloadN (pc' := 1) C P d2_0 rfl rfl ?_
  refine k_ifB (pcY := 12) (pcN := 4) C P d2_1 (by decide) (by decide) rfl ?_ ?_
  · intro (hc1 : b = (0 : Int32))
    refine k_ldc2L (pc' := 15) C P (C.w 8 rfl) d2_12 rfl ?_
    refine k_lloadN (pc' := 16) C P d2_15 rfl rfl ?_
    refine k_lmul (pc' := 17) C P d2_16 rfl ?_
    refine k_lconst (z := (1 : Int64)) (pc' := 18) C P d2_17 rfl rfl ?_
    refine k_ladd (pc' := 19) C P d2_18 rfl ?_
    exact k_retJ C P d2_19 (by decide) (by decide) ⟨by rw [if_pos hc1], rfl⟩
  · intro (hc1 : ¬ b = (0 : Int32))
    refine k_ldc2L (pc' := 7) C P (C.w 8 rfl) d2_4 rfl ?_
    refine k_lloadN (pc' := 8) C P d2_7 rfl rfl ?_
    refine k_lmul (pc' := 9) C P d2_8 rfl ?_
    refine k_goto (pc' := 19) C P d2_9 (by decide) (by decide) ?_
    exact k_retJ C P d2_19 (by decide) (by decide) ⟨by rw [if_neg hc1], rfl⟩
theorem pn_3 : plainName "com/example/pactline/pactline/model/SortingAscendingPinLaw" = true := by first | (simp [plainName, overriddenIn]; done) | decide +kernel
theorem ef_rmBef (m : MethodId) (x0 : Int64) (x1 : Int32) (x2 : Int64) (x3 : Int32) : entryFrame m #[(.long x0), (.int x1), (.long x2), (.int x3)] 6 = mkF m 0 #[.val (.long x0), .second, .val (.int x1), .val (.long x2), .second, .val (.int x3)] [] := by first | (simp [entryFrame, mkF, argsToLocals, Value.category]; done) | rfl
set_option maxRecDepth 65536 in
set_option maxHeartbeats 40000000 in
theorem rmBef (l : Launch) (Z : State) (a0 : Array Value) (hw : ∀ d ∈ tables_1, d.before a0 Z = true) (h0 : Heap) (n0 : Nat) (Z0 : n0 ≤ h0.size) (x : Int64) (j : Int32) (y : Int64) (i : Int32) :
    KCt false l (⟨"com/example/pactline/pactline/model/SortingAscendingPinLaw", "before", "(JIJI)I"⟩ : MethodName) method_5_code 6 (some .int) ({ frames := 0, cells := 0, slots := 0, locals := 0 } : Room) Z n0 h0 #[(.long x), (.int j), (.long y), (.int i)] [] (fun v h => v = some (.int (if x < y ∨ (x = y ∧ j < i) then (1 : Int32) else 0)) ∧ h0 = h) := by
  refine k_enter (tbl := tables_1) (a0 := a0) (Ls := #[.val (.long x), .second, .val (.int j), .val (.long y), .second, .val (.int i)]) (plainFor_of_name pn_3) hw Z0 (fun m => ef_rmBef m x j y i) ?_
  intro p e s m below meth c T C P
  refine k_lloadN (pc' := 1) C P d3_0 rfl rfl ?_
  refine k_lloadN (pc' := 2) C P d3_1 rfl rfl ?_
  refine k_lcmp (pc' := 3) C P d3_2 rfl ?_
  refine k_ifB (pcY := 18) (pcN := 6) C P d3_3 (by decide) (by decide) rfl ?_ ?_
  · intro (hc3 : (k_cmpL x y) < (0 : Int32))
    refine k_iconst (z := (1 : Int32)) (pc' := 19) C P d3_18 rfl rfl ?_
    refine k_goto (pc' := 23) C P d3_19 (by decide) (by decide) ?_
    exact k_retI C P d3_23 (by decide) (by decide) ⟨by rw [if_pos (Or.inl (own_lclt.mp hc3))], rfl⟩
  · intro (hc3 : ¬ (k_cmpL x y) < (0 : Int32))
    refine k_lloadN (pc' := 7) C P d3_6 rfl rfl ?_
    refine k_lloadN (pc' := 8) C P d3_7 rfl rfl ?_
    refine k_lcmp (pc' := 9) C P d3_8 rfl ?_
    refine k_ifB (pcY := 22) (pcN := 12) C P d3_9 (by decide) (by decide) rfl ?_ ?_
    · intro (hc9 : ¬ (k_cmpL x y) = (0 : Int32))
      refine k_iconst (z := (0 : Int32)) (pc' := 23) C P d3_22 rfl rfl ?_
      exact k_retI C P d3_23 (by decide) (by decide) ⟨by rw [if_neg (fun q => q.elim (fun z => hc3 (own_lclt.mpr z)) (fun z => hc9 (own_lc0.mpr z.1)))], rfl⟩
    · intro (hc9 : (k_cmpL x y) = (0 : Int32))
      refine k_iloadN (pc' := 13) C P d3_12 rfl rfl ?_
      refine k_iload (pc' := 15) C P d3_13 rfl rfl ?_
      refine k_icB (pcY := 22) (pcN := 18) C P d3_15 (by decide) (by decide) rfl ?_ ?_
      · intro (hc15 : ¬ j < i)
        refine k_iconst (z := (0 : Int32)) (pc' := 23) C P d3_22 rfl rfl ?_
        exact k_retI C P d3_23 (by decide) (by decide) ⟨by rw [if_neg (fun q => q.elim (fun z => hc3 (own_lclt.mpr z)) (fun z => hc15 z.2))], rfl⟩
      · intro (hc15 : j < i)
        refine k_iconst (z := (1 : Int32)) (pc' := 19) C P d3_18 rfl rfl ?_
        refine k_goto (pc' := 23) C P d3_19 (by decide) (by decide) ?_
        exact k_retI C P d3_23 (by decide) (by decide) ⟨by rw [if_pos (Or.inr ⟨own_lc0.mp hc9, hc15⟩)], rfl⟩
set_option maxRecDepth 65536 in
set_option maxHeartbeats 40000000 in
theorem lp_fill {p : Program} {l : Launch} {e : Env} {R : Room} {s : State} {m : MethodId} {args : Array Value} {below : List Frame} {meth : Method} {c : Code} {Z : State} {a0 : Array Value} {n0 : Nat} {h0 : Heap} {ws : List Addr} {cells slots : Nat} {K : State → Outcome → Prop} (C : KCx tables_1 "fill" jdk_65_method_103_code 4 none p meth c Z a0) (b : Addr) (kk : ClassId) (f : Nat → Value) (ge_b : n0 ≤ b) (sz_b : b ∈ ws ∨ h0.size ≤ b)
    (hk : ∀ (T : State) (h : Heap) (i2 : Int32), KPos false p l e R s m args below meth c Z "java/util/Arrays" n0 h0 ws T h cells slots → KVA Z h b kk .int 257 (fun _ => .int 0) → KGo p e below K T m 20 #[.val (.ref b), .val (.int 0), .val (.int i2), .val (.int 257)] []) :
    ∀ (k i : Nat) (i2 : Int32) (T : State) (h : Heap), i + k = 257 → i2.toInt = (i : Int) → KPos false p l e R s m args below meth c Z "java/util/Arrays" n0 h0 ws T h cells slots → KVA Z h b kk .int 257 (fun j => if j < i then .int 0 else f j) → KGo p e below K T m 5 #[.val (.ref b), .val (.int 0), .val (.int i2), .val (.int 257)] [] := by
  have h257 : (257 : Int32).toInt = ((257 : Nat) : Int) := rfl
  intro k
  induction k with
  | zero =>
    intro i i2 T h hi hi2 P V
    refine k_iloadN (pc' := 6) C P d5_5 rfl rfl ?_
    refine k_iloadN (pc' := 7) C P d5_6 rfl rfl ?_
    refine k_icY (pc' := 20) C P d5_7 (fun q => by rw [OwnNum.lt_iff hi2 h257] at q; omega) (by decide) (by decide) ?_
    exact hk _ _ _ P (V.congr (fun j hj => if_pos (by omega)))
  | succ k ih =>
    intro i i2 T h hi hi2 P V
    refine k_iloadN (pc' := 6) C P d5_5 rfl rfl ?_
    refine k_iloadN (pc' := 7) C P d5_6 rfl rfl ?_
    refine k_icN (pc' := 10) C P d5_7 ((OwnNum.lt_iff hi2 h257).mpr (by omega)) rfl ?_
    refine k_aloadN (pc' := 11) C P d5_10 rfl rfl rfl ?_
    refine k_iloadN (pc' := 12) C P d5_11 rfl rfl ?_
    refine k_iloadN (pc' := 13) C P d5_12 rfl rfl ?_
    refine k_iastore (J := i) (g' := (fun j => if j < i + 1 then Value.int 0 else f j)) (pc' := 14) C P V d5_13 hi2 (by omega) (fun j _ => own_fill j i f) ge_b sz_b rfl ?_
    intro T1 h1 P1 W1 V1
    refine k_iinc (z := (i2 + (1 : Int32))) (l' := #[.val (.ref b), .val (.int (0 : Int32)), .val (.int (i2 + (1 : Int32))), .val (.int (257 : Int32))]) (pc' := 17) C P1 d5_14 rfl rfl rfl rfl ?_
    refine k_goto (pc' := 5) C P1 d5_17 (by decide) (by decide) ?_
    exact ih (i + 1) _ _ _ (by omega) (OwnNum.add hi2 (show (1 : Int32).toInt = ((1 : Nat) : Int) from rfl) (by omega)) P1 V1
theorem pn_5 : plainName "java/util/Arrays" = true := by first | (simp [plainName, overriddenIn]; done) | decide +kernel
theorem ef_rmFill (m : MethodId) (x0 : Addr) (x1 : Int32) : entryFrame m #[(.ref x0), (.int x1)] 4 = mkF m 0 #[.val (.ref x0), .val (.int x1), .unset, .unset] [] := by first | (simp [entryFrame, mkF, argsToLocals, Value.category]; done) | rfl
set_option maxRecDepth 65536 in
set_option maxHeartbeats 40000000 in
theorem rmFill (l : Launch) (Z : State) (a0 : Array Value) (hw : ∀ d ∈ tables_1, d.before a0 Z = true) (h0 : Heap) (n0 : Nat) (Z0 : n0 ≤ h0.size) (b : Addr) (kk : ClassId) (f : Nat → Value) (V : KVA Z h0 b kk .int 257 f) (ge_b : n0 ≤ b) :
    KCt false l (⟨"java/util/Arrays", "fill", "([II)V"⟩ : MethodName) jdk_65_method_103_code 4 none ({ frames := 0, cells := 0, slots := 0, locals := 0 } : Room) Z n0 h0 #[(.ref b), (.int (0 : Int32))] [b] (fun v h => v = none ∧ KVA Z h b kk .int 257 (fun _ => .int 0)) := by
  refine k_enter (tbl := tables_1) (a0 := a0) (Ls := #[.val (.ref b), .val (.int (0 : Int32)), .unset, .unset]) (plainFor_of_name pn_5) hw Z0 (fun m => ef_rmFill m b (0 : Int32)) ?_
  intro p e s m below meth c T C P
  have sz_b : b ∈ [b] ∨ h0.size ≤ b := Or.inl (by simp)
  refine k_iconst (z := (0 : Int32)) (pc' := 1) C P d5_0 rfl rfl ?_
  refine k_istoreN (l' := #[.val (.ref b), .val (.int (0 : Int32)), .val (.int (0 : Int32)), .unset]) (pc' := 2) C P d5_1 rfl rfl ?_
  refine k_aloadN (pc' := 3) C P d5_2 rfl rfl rfl ?_
  refine k_arrlen (z := (257 : Int32)) (pc' := 4) C P V d5_3 rfl rfl ?_
  refine k_istoreN (l' := #[.val (.ref b), .val (.int (0 : Int32)), .val (.int (0 : Int32)), .val (.int (257 : Int32))]) (pc' := 5) C P d5_4 rfl rfl ?_
  refine lp_fill C b kk f ge_b sz_b ?_ 257 0 0 _ _ (by omega) rfl P (V.congr (fun j _ => (if_neg (by omega)).symm))
  intro T h i2 P V
  exact k_retV C P d5_20 (by decide) (by decide) ⟨rfl, V⟩
set_option maxRecDepth 65536 in
set_option maxHeartbeats 40000000 in
theorem lp_pre {p : Program} {l : Launch} {e : Env} {R : Room} {s : State} {m : MethodId} {args : Array Value} {below : List Frame} {meth : Method} {c : Code} {Z : State} {a0 : Array Value} {n0 : Nat} {h0 : Heap} {ws : List Addr} {cells slots : Nat} {K : State → Outcome → Prop} (C : KCx tables_1 "ascending" prog_70_method_2_code 15 (some (.array .int)) p meth c Z a0) (ka u o ub ob cn : Addr) (ku ko kub kob kc : ClassId) (A UB : Nat → Int64) (O OB : Nat → Int32) (ne_u_ub : u ≠ ub) (ne_o_ob : o ≠ ob) (ne_o_cn : o ≠ cn) (ne_ob_cn : ob ≠ cn) (ge_u : n0 ≤ u) (sz_u : u ∈ ws ∨ h0.size ≤ u) (ge_o : n0 ≤ o) (sz_o : o ∈ ws ∨ h0.size ≤ o) (ge_ub : n0 ≤ ub) (sz_ub : ub ∈ ws ∨ h0.size ≤ ub) (ge_ob : n0 ≤ ob) (sz_ob : ob ∈ ws ∨ h0.size ≤ ob) (ge_cn : n0 ≤ cn) (sz_cn : cn ∈ ws ∨ h0.size ≤ cn) (b0 b1 b2 b3 : Nat) (df : Int64) (sh l11 l12 : Int32) (l13 : Int64)
    (hk : ∀ (T : State) (h : Heap), KPos false p l e R s m args below meth c Z "com/example/pactline/pactline/model/Sorting" n0 h0 ws T h cells slots → KVA Z h u ku .long 4 (fun j => .long (A j)) → KVA Z h o ko .int 4 (fun j => .int (O j)) → KVA Z h ub kub .long 4 (fun j => .long (UB j)) → KVA Z h ob kob .int 4 (fun j => .int (OB j)) → KVA Z h cn kc .int 257 (fun j => .int (own_n (if j < 256 then own_L b0 b1 b2 b3 j else own_E b0 b1 b2 b3 j))) → KGo p e below K T m 223 #[.val (.ref ka), .val (.int 4), .val (.ref u), .val (.ref o), .val (.long df), .second, .val (.ref ub), .val (.ref ob), .val (.ref cn), .val (.int sh), .val (.int 256), .val (.int l11), .val (.int l12), .val (.long l13), .second] []) :
    ∀ (k i : Nat) (i10 : Int32) (T : State) (h : Heap), i + k = 256 → 1 ≤ i → i10.toInt = (i : Int) → KPos false p l e R s m args below meth c Z "com/example/pactline/pactline/model/Sorting" n0 h0 ws T h cells slots → KVA Z h u ku .long 4 (fun j => .long (A j)) → KVA Z h o ko .int 4 (fun j => .int (O j)) → KVA Z h ub kub .long 4 (fun j => .long (UB j)) → KVA Z h ob kob .int 4 (fun j => .int (OB j)) → KVA Z h cn kc .int 257 (fun j => .int (own_n (if j < i then own_L b0 b1 b2 b3 j else own_E b0 b1 b2 b3 j))) → KGo p e below K T m 194 #[.val (.ref ka), .val (.int 4), .val (.ref u), .val (.ref o), .val (.long df), .second, .val (.ref ub), .val (.ref ob), .val (.ref cn), .val (.int sh), .val (.int i10), .val (.int l11), .val (.int l12), .val (.long l13), .second] [] := by
  have h256 : (256 : Int32).toInt = ((256 : Nat) : Int) := rfl
  intro k
  induction k with
  | zero =>
    intro i i10 T h hi hi1 hi10 P Hu Ho Hub Hob Hcn
    obtain rfl : i = 256 := by omega
    obtain rfl : i10 = 256 := Int32.toInt_inj.mp (hi10.trans h256.symm)
    refine k_iload (pc' := 196) C P d4_194 rfl rfl ?_
    refine k_sipush (z := (256 : Int32)) (pc' := 199) C P d4_196 rfl rfl ?_
    refine k_icY (pc' := 223) C P d4_199 (show ¬ (256 : Int32) < 256 by decide) (by decide) (by decide) ?_
    exact hk _ _ P Hu Ho Hub Hob Hcn
  | succ k ih =>
    intro i i10 T h hi hi1 hi10 P Hu Ho Hub Hob Hcn
    refine k_iload (pc' := 196) C P d4_194 rfl rfl ?_
    refine k_sipush (z := (256 : Int32)) (pc' := 199) C P d4_196 rfl rfl ?_
    refine k_icN (pc' := 202) C P d4_199 ((OwnNum.lt_iff hi10 h256).mpr (by omega)) rfl ?_
    refine k_aload (pc' := 204) C P d4_202 rfl rfl rfl ?_
    refine k_iload (pc' := 206) C P d4_204 rfl rfl ?_
    refine k_dup2 (pc' := 207) C P d4_206 rfl rfl rfl ?_
    refine k_iaload (J := i) (v := (.int (own_n (own_E b0 b1 b2 b3 i)))) (pc' := 208) C P Hcn d4_207 hi10 (by omega) (by rw [if_neg (by omega)]) rfl ?_
    refine k_aload (pc' := 210) C P d4_208 rfl rfl rfl ?_
    refine k_iload (pc' := 212) C P d4_210 rfl rfl ?_
    refine k_iconst (z := (1 : Int32)) (pc' := 213) C P d4_212 rfl rfl ?_
    refine k_isub (pc' := 214) C P d4_213 rfl ?_
    have him := own_im1 hi10 hi1
    refine k_iaload (J := (i - 1)) (v := (.int (own_n (own_L b0 b1 b2 b3 (i - 1))))) (pc' := 215) C P Hcn d4_214 him (by omega) (by rw [if_pos (by omega)]) rfl ?_
    refine k_iadd (pc' := 216) C P d4_215 rfl ?_
    refine k_iastore (J := i) (g' := (fun j => Value.int (own_n (if j < i + 1 then own_L b0 b1 b2 b3 j else own_E b0 b1 b2 b3 j)))) (pc' := 217) C P Hcn d4_216 hi10 (by omega) (fun j _ => own_pre j i hi1) ge_cn sz_cn rfl ?_
    intro T2 h2 P2 W2 V2
    have f2_u := Hu.other W2 (KVA.neT Hu Hcn nofun)
    have f2_o := Ho.other W2 ne_o_cn
    have f2_ub := Hub.other W2 (KVA.neT Hub Hcn nofun)
    have f2_ob := Hob.other W2 ne_ob_cn
    refine k_iinc (z := (i10 + (1 : Int32))) (l' := #[.val (.ref ka), .val (.int (4 : Int32)), .val (.ref u), .val (.ref o), .val (.long df), .second, .val (.ref ub), .val (.ref ob), .val (.ref cn), .val (.int sh), .val (.int (i10 + (1 : Int32))), .val (.int l11), .val (.int l12), .val (.long l13), .second]) (pc' := 220) C P2 d4_217 rfl rfl rfl rfl ?_
    refine k_goto (pc' := 194) C P2 d4_220 (by decide) (by decide) ?_
    exact ih (i + 1) _ _ _ (by omega) (by omega) (OwnNum.add hi10 (show (1 : Int32).toInt = ((1 : Nat) : Int) from rfl) (by omega)) P2 f2_u f2_o f2_ub f2_ob V2
set_option maxRecDepth 65536 in
set_option maxHeartbeats 80000000 in
theorem lp_out {p : Program} {l : Launch} {e : Env} {R : Room} {s : State} {m : MethodId} {args : Array Value} {below : List Frame} {meth : Method} {c : Code} {Z : State} {a0 : Array Value} {n0 : Nat} {h0 : Heap} {ws : List Addr} {cells slots : Nat} {Q : Option Value → Heap → Prop} {kx ks : Nat} (hkc : cells ≤ kx) (hks : slots ≤ ks) (hR : 1 ≤ R.frames) (hRl : 0 + (4 + 11) + 0 ≤ R.locals) (hRc : cells ≤ R.cells) (hRs : slots ≤ R.slots) (C : KCx tables_1 "ascending" prog_70_method_2_code 15 (some (.array .int)) p meth c Z a0) (hw : ∀ d ∈ tables_1, d.before a0 Z = true) (ka cn : Addr) (kc : ClassId) (U : Nat → Int64) (df : Int64) (hdf : own_df U df) (ge_cn : n0 ≤ cn) (sz_cn : cn ∈ ws ∨ h0.size ≤ cn)
    (hq : ∀ (o : Addr) (ko : ClassId) (A : Nat → Int64) (O : Nat → Int32) (h : Heap), own_inv U 64 A O → KVA Z h o ko .int 4 (fun j => .int (O j)) → Q (some (.ref o)) h) :
    ∀ (k S : Nat) (sh : Int32) (u o ub ob : Addr) (ku ko kub kob : ClassId) (A UB : Nat → Int64) (O OB : Nat → Int32) (CN : Nat → Value) (s10 s11 s12 s13 s14 : Slot) (T : State) (h : Heap), S + 8 * k = 64 → sh.toInt = (S : Int) → own_inv U S A O → own_sl s10 s11 s12 s13 s14 → u ≠ ub → o ≠ ob → o ≠ cn → ob ≠ cn → n0 ≤ u → (u ∈ ws ∨ h0.size ≤ u) → n0 ≤ o → (o ∈ ws ∨ h0.size ≤ o) → n0 ≤ ub → (ub ∈ ws ∨ h0.size ≤ ub) → n0 ≤ ob → (ob ∈ ws ∨ h0.size ≤ ob) → KPos false p l e R s m args below meth c Z "com/example/pactline/pactline/model/Sorting" n0 h0 ws T h cells slots → KVA Z h u ku .long 4 (fun j => .long (A j)) → KVA Z h o ko .int 4 (fun j => .int (O j)) → KVA Z h ub kub .long 4 (fun j => .long (UB j)) → KVA Z h ob kob .int 4 (fun j => .int (OB j)) → KVA Z h cn kc .int 257 CN → KGo p e below (KEnd false s n0 h0 ws Q kx ks) T m 111 #[.val (.ref ka), .val (.int 4), .val (.ref u), .val (.ref o), .val (.long df), .second, .val (.ref ub), .val (.ref ob), .val (.ref cn), .val (.int sh), s10, s11, s12, s13, s14] [] := by
  have h64 : (64 : Int32).toInt = ((64 : Nat) : Int) := rfl
  intro k
  induction k with
  | zero =>
    intro S sh u o ub ob ku ko kub kob A UB O OB CN s10 s11 s12 s13 s14 T h hS hsh I hsl ne_u_ub ne_o_ob ne_o_cn ne_ob_cn ge_u sz_u ge_o sz_o ge_ub sz_ub ge_ob sz_ob P Hu Ho Hub Hob Hcn
    obtain rfl : S = 64 := by omega
    refine k_iload (pc' := 113) C P d4_111 rfl rfl ?_
    refine k_bipush (z := (64 : Int32)) (pc' := 115) C P d4_113 rfl rfl ?_
    refine k_icY (pc' := 304) C P d4_115 (fun q => by rw [OwnNum.lt_iff hsh h64] at q; omega) (by decide) (by decide) ?_
    refine k_aloadN (pc' := 305) C P d4_304 rfl rfl rfl ?_
    exact k_retA C P d4_305 rfl rfl hkc hks (hq o ko A O _ I Ho)
  | succ k ih =>
    intro S sh u o ub ob ku ko kub kob A UB O OB CN s10 s11 s12 s13 s14 T h hS hsh I hsl ne_u_ub ne_o_ob ne_o_cn ne_ob_cn ge_u sz_u ge_o sz_o ge_ub sz_ub ge_ob sz_ob P Hu Ho Hub Hob Hcn
    refine k_iload (pc' := 113) C P d4_111 rfl rfl ?_
    refine k_bipush (z := (64 : Int32)) (pc' := 115) C P d4_113 rfl rfl ?_
    refine k_icN (pc' := 118) C P d4_115 ((OwnNum.lt_iff hsh h64).mpr (by omega)) rfl ?_
    refine k_lload (pc' := 120) C P d4_118 rfl rfl ?_
    refine k_iload (pc' := 122) C P d4_120 rfl rfl ?_
    refine k_lushr (pc' := 123) C P d4_122 rfl ?_
    refine k_ldc2L (pc' := 126) C P (C.w 23 rfl) d4_123 rfl ?_
    refine k_land (pc' := 127) C P d4_126 rfl ?_
    refine k_lconst (z := (0 : Int64)) (pc' := 128) C P d4_127 rfl rfl ?_
    refine k_lcmp (pc' := 129) C P d4_128 rfl ?_
    refine k_ifB (pcY := 135) (pcN := 132) C P d4_129 (by decide) (by decide) rfl ?_ ?_
    · intro (hc129 : ¬ (k_cmpL ((k_ushrL df sh) &&& (255 : Int64)) (0 : Int64)) = (0 : Int32))
      have hS56 : S ≤ 56 := by omega
      obtain ⟨b0, hb0, hl0, eb0⟩ := own_byte (A 0) hsh hS56
      obtain ⟨b1, hb1, hl1, eb1⟩ := own_byte (A 1) hsh hS56
      obtain ⟨b2, hb2, hl2, eb2⟩ := own_byte (A 2) hsh hS56
      obtain ⟨b3, hb3, hl3, eb3⟩ := own_byte (A 3) hsh hS56
      rcases hsl with ⟨rfl, rfl, rfl, rfl, rfl⟩ | ⟨a10, a11, c12, d13, rfl, rfl, rfl, rfl, rfl⟩
      · skip
        refine k_aload (pc' := 137) C P d4_135 rfl rfl rfl ?_
        refine k_iconst (z := (0 : Int32)) (pc' := 138) C P d4_137 rfl rfl ?_
        refine k_callT (pc' := 141) (cells' := cells) (slots' := slots) (W := 0) C P (C.w 24 rfl) (C.w 25 rfl) (C.w 27 rfl) (C.w 26 rfl) (by decide) (rmFill l Z a0 hw _ n0 P.size cn kc _ Hcn ge_cn) [(.ref cn), (.int (0 : Int32))] [] rfl (lenOf pd_0 rfl) rfl (Nat.le_of_eq rfl) d4_138 rfl hR hRl rfl rfl hRc hRs (allS sz_cn all0) rfl ?_
        intro T3 h3 v3 P3 K3 Q3
        obtain ⟨rfl, V3_⟩ := Q3
        have f3_u := Hu.keep K3 (ninS (KVA.neT Hu Hcn nofun) nin0)
        have f3_o := Ho.keep K3 (ninS ne_o_cn nin0)
        have f3_ub := Hub.keep K3 (ninS (KVA.neT Hub Hcn nofun) nin0)
        have f3_ob := Hob.keep K3 (ninS ne_ob_cn nin0)
        show KGo p e below _ T3 m 141 #[.val (.ref ka), .val (.int (4 : Int32)), .val (.ref u), .val (.ref o), .val (.long df), .second, .val (.ref ub), .val (.ref ob), .val (.ref cn), .val (.int sh), .unset, .unset, .unset, .unset, .unset] []
        refine k_aloadN (pc' := 142) C P3 d4_141 rfl rfl rfl ?_
        refine k_astore (l' := #[.val (.ref ka), .val (.int (4 : Int32)), .val (.ref u), .val (.ref o), .val (.long df), .second, .val (.ref ub), .val (.ref ob), .val (.ref cn), .val (.int sh), .val (.ref u), .unset, .unset, .unset, .unset]) (pc' := 144) C P3 d4_142 rfl rfl rfl ?_
        refine k_aload (pc' := 146) C P3 d4_144 rfl rfl rfl ?_
        refine k_arrlen (z := (4 : Int32)) (pc' := 147) C P3 f3_u d4_146 rfl rfl ?_
        refine k_istore (l' := #[.val (.ref ka), .val (.int (4 : Int32)), .val (.ref u), .val (.ref o), .val (.long df), .second, .val (.ref ub), .val (.ref ob), .val (.ref cn), .val (.int sh), .val (.ref u), .val (.int (4 : Int32)), .unset, .unset, .unset]) (pc' := 149) C P3 d4_147 rfl rfl ?_
        refine k_iconst (z := (0 : Int32)) (pc' := 150) C P3 d4_149 rfl rfl ?_
        refine k_istore (l' := #[.val (.ref ka), .val (.int (4 : Int32)), .val (.ref u), .val (.ref o), .val (.long df), .second, .val (.ref ub), .val (.ref ob), .val (.ref cn), .val (.int sh), .val (.ref u), .val (.int (4 : Int32)), .val (.int (0 : Int32)), .unset, .unset]) (pc' := 152) C P3 d4_150 rfl rfl ?_
        refine k_iload (pc' := 154) C P3 d4_152 rfl rfl ?_
        refine k_iload (pc' := 156) C P3 d4_154 rfl rfl ?_
        refine k_icN (pc' := 159) C P3 d4_156 (show (0 : Int32) < (4 : Int32) by decide) rfl ?_
        refine k_aload (pc' := 161) C P3 d4_159 rfl rfl rfl ?_
        refine k_iload (pc' := 163) C P3 d4_161 rfl rfl ?_
        refine k_laload (J := 0) (v := (.long (A 0))) (pc' := 164) C P3 f3_u d4_163 rfl (by decide) rfl rfl ?_
        refine k_lstore (l' := #[.val (.ref ka), .val (.int (4 : Int32)), .val (.ref u), .val (.ref o), .val (.long df), .second, .val (.ref ub), .val (.ref ob), .val (.ref cn), .val (.int sh), .val (.ref u), .val (.int (4 : Int32)), .val (.int (0 : Int32)), .val (.long (A 0)), .second]) (pc' := 166) C P3 d4_164 rfl rfl ?_
        refine k_aload (pc' := 168) C P3 d4_166 rfl rfl rfl ?_
        refine k_lload (pc' := 170) C P3 d4_168 rfl rfl ?_
        refine k_iload (pc' := 172) C P3 d4_170 rfl rfl ?_
        refine k_lushr (pc' := 173) C P3 d4_172 rfl ?_
        refine k_ldc2L (pc' := 176) C P3 (C.w 23 rfl) d4_173 rfl ?_
        refine k_land (pc' := 177) C P3 d4_176 rfl ?_
        refine k_l2i (pc' := 178) C P3 d4_177 rfl ?_
        refine k_iconst (z := (1 : Int32)) (pc' := 179) C P3 d4_178 rfl rfl ?_
        refine k_iadd (pc' := 180) C P3 d4_179 rfl ?_
        refine k_dup2 (pc' := 181) C P3 d4_180 rfl rfl rfl ?_
        have Hc0 : KVA Z _ cn kc .int 257 (fun j => .int (own_n 0)) := V3_
        refine k_iaload (J := (b0 + 1)) (v := (.int (own_n (0)))) (pc' := 182) C P3 Hc0 d4_181 (OwnNum.add hb0 (show (1 : Int32).toInt = ((1 : Nat) : Int) from rfl) (by omega)) (by omega) rfl rfl ?_
        refine k_iconst (z := (1 : Int32)) (pc' := 183) C P3 d4_182 rfl rfl ?_
        refine k_iadd (pc' := 184) C P3 d4_183 rfl ?_
        refine k_iastore (J := (b0 + 1)) (g' := (fun j => Value.int (own_n ((if b0 + 1 = j then 1 else 0))))) (pc' := 185) C P3 Hc0 d4_184 (OwnNum.add hb0 (show (1 : Int32).toInt = ((1 : Nat) : Int) from rfl) (by omega)) (by omega) (fun j _ => own_cnt0 (fun j => 0) b0 j) ge_cn sz_cn rfl ?_
        intro T4 h4 P4 W4 V4
        have f4_u := f3_u.other W4 (KVA.neT f3_u Hc0 nofun)
        have f4_o := f3_o.other W4 ne_o_cn
        have f4_ub := f3_ub.other W4 (KVA.neT f3_ub Hc0 nofun)
        have f4_ob := f3_ob.other W4 ne_ob_cn
        refine k_iinc (z := (1 : Int32)) (l' := #[.val (.ref ka), .val (.int (4 : Int32)), .val (.ref u), .val (.ref o), .val (.long df), .second, .val (.ref ub), .val (.ref ob), .val (.ref cn), .val (.int sh), .val (.ref u), .val (.int (4 : Int32)), .val (.int (1 : Int32)), .val (.long (A 0)), .second]) (pc' := 188) C P4 d4_185 rfl rfl rfl rfl ?_
        refine k_goto (pc' := 152) C P4 d4_188 (by decide) (by decide) ?_
        refine k_iload (pc' := 154) C P4 d4_152 rfl rfl ?_
        refine k_iload (pc' := 156) C P4 d4_154 rfl rfl ?_
        refine k_icN (pc' := 159) C P4 d4_156 (show (1 : Int32) < (4 : Int32) by decide) rfl ?_
        refine k_aload (pc' := 161) C P4 d4_159 rfl rfl rfl ?_
        refine k_iload (pc' := 163) C P4 d4_161 rfl rfl ?_
        refine k_laload (J := 1) (v := (.long (A 1))) (pc' := 164) C P4 f4_u d4_163 rfl (by decide) rfl rfl ?_
        refine k_lstore (l' := #[.val (.ref ka), .val (.int (4 : Int32)), .val (.ref u), .val (.ref o), .val (.long df), .second, .val (.ref ub), .val (.ref ob), .val (.ref cn), .val (.int sh), .val (.ref u), .val (.int (4 : Int32)), .val (.int (1 : Int32)), .val (.long (A 1)), .second]) (pc' := 166) C P4 d4_164 rfl rfl ?_
        refine k_aload (pc' := 168) C P4 d4_166 rfl rfl rfl ?_
        refine k_lload (pc' := 170) C P4 d4_168 rfl rfl ?_
        refine k_iload (pc' := 172) C P4 d4_170 rfl rfl ?_
        refine k_lushr (pc' := 173) C P4 d4_172 rfl ?_
        refine k_ldc2L (pc' := 176) C P4 (C.w 23 rfl) d4_173 rfl ?_
        refine k_land (pc' := 177) C P4 d4_176 rfl ?_
        refine k_l2i (pc' := 178) C P4 d4_177 rfl ?_
        refine k_iconst (z := (1 : Int32)) (pc' := 179) C P4 d4_178 rfl rfl ?_
        refine k_iadd (pc' := 180) C P4 d4_179 rfl ?_
        refine k_dup2 (pc' := 181) C P4 d4_180 rfl rfl rfl ?_
        refine k_iaload (J := (b1 + 1)) (v := (.int (own_n ((if b0 + 1 = b1 + 1 then 1 else 0))))) (pc' := 182) C P4 V4 d4_181 (OwnNum.add hb1 (show (1 : Int32).toInt = ((1 : Nat) : Int) from rfl) (by omega)) (by omega) rfl rfl ?_
        refine k_iconst (z := (1 : Int32)) (pc' := 183) C P4 d4_182 rfl rfl ?_
        refine k_iadd (pc' := 184) C P4 d4_183 rfl ?_
        refine k_iastore (J := (b1 + 1)) (g' := (fun j => Value.int (own_n ((if b0 + 1 = j then 1 else 0) + (if b1 + 1 = j then 1 else 0))))) (pc' := 185) C P4 V4 d4_184 (OwnNum.add hb1 (show (1 : Int32).toInt = ((1 : Nat) : Int) from rfl) (by omega)) (by omega) (fun j _ => own_cnt (fun j => (if b0 + 1 = j then 1 else 0)) b1 j) ge_cn sz_cn rfl ?_
        intro T5 h5 P5 W5 V5
        have f5_u := f4_u.other W5 (KVA.neT f4_u V4 nofun)
        have f5_o := f4_o.other W5 ne_o_cn
        have f5_ub := f4_ub.other W5 (KVA.neT f4_ub V4 nofun)
        have f5_ob := f4_ob.other W5 ne_ob_cn
        refine k_iinc (z := (2 : Int32)) (l' := #[.val (.ref ka), .val (.int (4 : Int32)), .val (.ref u), .val (.ref o), .val (.long df), .second, .val (.ref ub), .val (.ref ob), .val (.ref cn), .val (.int sh), .val (.ref u), .val (.int (4 : Int32)), .val (.int (2 : Int32)), .val (.long (A 1)), .second]) (pc' := 188) C P5 d4_185 rfl rfl rfl rfl ?_
        refine k_goto (pc' := 152) C P5 d4_188 (by decide) (by decide) ?_
        refine k_iload (pc' := 154) C P5 d4_152 rfl rfl ?_
        refine k_iload (pc' := 156) C P5 d4_154 rfl rfl ?_
        refine k_icN (pc' := 159) C P5 d4_156 (show (2 : Int32) < (4 : Int32) by decide) rfl ?_
        refine k_aload (pc' := 161) C P5 d4_159 rfl rfl rfl ?_
        refine k_iload (pc' := 163) C P5 d4_161 rfl rfl ?_
        refine k_laload (J := 2) (v := (.long (A 2))) (pc' := 164) C P5 f5_u d4_163 rfl (by decide) rfl rfl ?_
        refine k_lstore (l' := #[.val (.ref ka), .val (.int (4 : Int32)), .val (.ref u), .val (.ref o), .val (.long df), .second, .val (.ref ub), .val (.ref ob), .val (.ref cn), .val (.int sh), .val (.ref u), .val (.int (4 : Int32)), .val (.int (2 : Int32)), .val (.long (A 2)), .second]) (pc' := 166) C P5 d4_164 rfl rfl ?_
        refine k_aload (pc' := 168) C P5 d4_166 rfl rfl rfl ?_
        refine k_lload (pc' := 170) C P5 d4_168 rfl rfl ?_
        refine k_iload (pc' := 172) C P5 d4_170 rfl rfl ?_
        refine k_lushr (pc' := 173) C P5 d4_172 rfl ?_
        refine k_ldc2L (pc' := 176) C P5 (C.w 23 rfl) d4_173 rfl ?_
        refine k_land (pc' := 177) C P5 d4_176 rfl ?_
        refine k_l2i (pc' := 178) C P5 d4_177 rfl ?_
        refine k_iconst (z := (1 : Int32)) (pc' := 179) C P5 d4_178 rfl rfl ?_
        refine k_iadd (pc' := 180) C P5 d4_179 rfl ?_
        refine k_dup2 (pc' := 181) C P5 d4_180 rfl rfl rfl ?_
        refine k_iaload (J := (b2 + 1)) (v := (.int (own_n ((if b0 + 1 = b2 + 1 then 1 else 0) + (if b1 + 1 = b2 + 1 then 1 else 0))))) (pc' := 182) C P5 V5 d4_181 (OwnNum.add hb2 (show (1 : Int32).toInt = ((1 : Nat) : Int) from rfl) (by omega)) (by omega) rfl rfl ?_
        refine k_iconst (z := (1 : Int32)) (pc' := 183) C P5 d4_182 rfl rfl ?_
        refine k_iadd (pc' := 184) C P5 d4_183 rfl ?_
        refine k_iastore (J := (b2 + 1)) (g' := (fun j => Value.int (own_n ((if b0 + 1 = j then 1 else 0) + (if b1 + 1 = j then 1 else 0) + (if b2 + 1 = j then 1 else 0))))) (pc' := 185) C P5 V5 d4_184 (OwnNum.add hb2 (show (1 : Int32).toInt = ((1 : Nat) : Int) from rfl) (by omega)) (by omega) (fun j _ => own_cnt (fun j => (if b0 + 1 = j then 1 else 0) + (if b1 + 1 = j then 1 else 0)) b2 j) ge_cn sz_cn rfl ?_
        intro T6 h6 P6 W6 V6
        have f6_u := f5_u.other W6 (KVA.neT f5_u V5 nofun)
        have f6_o := f5_o.other W6 ne_o_cn
        have f6_ub := f5_ub.other W6 (KVA.neT f5_ub V5 nofun)
        have f6_ob := f5_ob.other W6 ne_ob_cn
        refine k_iinc (z := (3 : Int32)) (l' := #[.val (.ref ka), .val (.int (4 : Int32)), .val (.ref u), .val (.ref o), .val (.long df), .second, .val (.ref ub), .val (.ref ob), .val (.ref cn), .val (.int sh), .val (.ref u), .val (.int (4 : Int32)), .val (.int (3 : Int32)), .val (.long (A 2)), .second]) (pc' := 188) C P6 d4_185 rfl rfl rfl rfl ?_
        refine k_goto (pc' := 152) C P6 d4_188 (by decide) (by decide) ?_
        refine k_iload (pc' := 154) C P6 d4_152 rfl rfl ?_
        refine k_iload (pc' := 156) C P6 d4_154 rfl rfl ?_
        refine k_icN (pc' := 159) C P6 d4_156 (show (3 : Int32) < (4 : Int32) by decide) rfl ?_
        refine k_aload (pc' := 161) C P6 d4_159 rfl rfl rfl ?_
        refine k_iload (pc' := 163) C P6 d4_161 rfl rfl ?_
        refine k_laload (J := 3) (v := (.long (A 3))) (pc' := 164) C P6 f6_u d4_163 rfl (by decide) rfl rfl ?_
        refine k_lstore (l' := #[.val (.ref ka), .val (.int (4 : Int32)), .val (.ref u), .val (.ref o), .val (.long df), .second, .val (.ref ub), .val (.ref ob), .val (.ref cn), .val (.int sh), .val (.ref u), .val (.int (4 : Int32)), .val (.int (3 : Int32)), .val (.long (A 3)), .second]) (pc' := 166) C P6 d4_164 rfl rfl ?_
        refine k_aload (pc' := 168) C P6 d4_166 rfl rfl rfl ?_
        refine k_lload (pc' := 170) C P6 d4_168 rfl rfl ?_
        refine k_iload (pc' := 172) C P6 d4_170 rfl rfl ?_
        refine k_lushr (pc' := 173) C P6 d4_172 rfl ?_
        refine k_ldc2L (pc' := 176) C P6 (C.w 23 rfl) d4_173 rfl ?_
        refine k_land (pc' := 177) C P6 d4_176 rfl ?_
        refine k_l2i (pc' := 178) C P6 d4_177 rfl ?_
        refine k_iconst (z := (1 : Int32)) (pc' := 179) C P6 d4_178 rfl rfl ?_
        refine k_iadd (pc' := 180) C P6 d4_179 rfl ?_
        refine k_dup2 (pc' := 181) C P6 d4_180 rfl rfl rfl ?_
        refine k_iaload (J := (b3 + 1)) (v := (.int (own_n ((if b0 + 1 = b3 + 1 then 1 else 0) + (if b1 + 1 = b3 + 1 then 1 else 0) + (if b2 + 1 = b3 + 1 then 1 else 0))))) (pc' := 182) C P6 V6 d4_181 (OwnNum.add hb3 (show (1 : Int32).toInt = ((1 : Nat) : Int) from rfl) (by omega)) (by omega) rfl rfl ?_
        refine k_iconst (z := (1 : Int32)) (pc' := 183) C P6 d4_182 rfl rfl ?_
        refine k_iadd (pc' := 184) C P6 d4_183 rfl ?_
        refine k_iastore (J := (b3 + 1)) (g' := (fun j => Value.int (own_n ((if b0 + 1 = j then 1 else 0) + (if b1 + 1 = j then 1 else 0) + (if b2 + 1 = j then 1 else 0) + (if b3 + 1 = j then 1 else 0))))) (pc' := 185) C P6 V6 d4_184 (OwnNum.add hb3 (show (1 : Int32).toInt = ((1 : Nat) : Int) from rfl) (by omega)) (by omega) (fun j _ => own_cnt (fun j => (if b0 + 1 = j then 1 else 0) + (if b1 + 1 = j then 1 else 0) + (if b2 + 1 = j then 1 else 0)) b3 j) ge_cn sz_cn rfl ?_
        intro T7 h7 P7 W7 V7
        have f7_u := f6_u.other W7 (KVA.neT f6_u V6 nofun)
        have f7_o := f6_o.other W7 ne_o_cn
        have f7_ub := f6_ub.other W7 (KVA.neT f6_ub V6 nofun)
        have f7_ob := f6_ob.other W7 ne_ob_cn
        refine k_iinc (z := (4 : Int32)) (l' := #[.val (.ref ka), .val (.int (4 : Int32)), .val (.ref u), .val (.ref o), .val (.long df), .second, .val (.ref ub), .val (.ref ob), .val (.ref cn), .val (.int sh), .val (.ref u), .val (.int (4 : Int32)), .val (.int (4 : Int32)), .val (.long (A 3)), .second]) (pc' := 188) C P7 d4_185 rfl rfl rfl rfl ?_
        refine k_goto (pc' := 152) C P7 d4_188 (by decide) (by decide) ?_
        refine k_iload (pc' := 154) C P7 d4_152 rfl rfl ?_
        refine k_iload (pc' := 156) C P7 d4_154 rfl rfl ?_
        refine k_icY (pc' := 191) C P7 d4_156 (show ¬ (4 : Int32) < 4 by decide) (by decide) (by decide) ?_
        refine k_iconst (z := (1 : Int32)) (pc' := 192) C P7 d4_191 rfl rfl ?_
        refine k_istore (l' := #[.val (.ref ka), .val (.int (4 : Int32)), .val (.ref u), .val (.ref o), .val (.long df), .second, .val (.ref ub), .val (.ref ob), .val (.ref cn), .val (.int sh), .val (.int (1 : Int32)), .val (.int (4 : Int32)), .val (.int (4 : Int32)), .val (.long (A 3)), .second]) (pc' := 194) C P7 d4_192 rfl rfl ?_
        refine lp_pre C ka u o ub ob cn ku ko kub kob kc A UB O OB ne_u_ub ne_o_ob ne_o_cn ne_ob_cn ge_u sz_u ge_o sz_o ge_ub sz_ub ge_ob sz_ob ge_cn sz_cn b0 b1 b2 b3 df sh 4 4 (A 3) ?_ 255 1 1 _ _ (by omega) (by omega) rfl P7 f7_u f7_o f7_ub f7_ob (V7.congr (fun j _ => own_st j))
        intro T h P Hu Ho Hub Hob Hcn
        obtain ⟨Pn0, eP0⟩ : ∃ z : Nat, z = own_L b0 b1 b2 b3 b0 + (0) := ⟨_, rfl⟩
        have hP0 : Pn0 < 4 := by rw [eP0]; exact own_P0 b0 b1 b2 b3
        obtain ⟨Pn1, eP1⟩ : ∃ z : Nat, z = own_L b0 b1 b2 b3 b1 + ((if b0 = b1 then 1 else 0)) := ⟨_, rfl⟩
        have hP1 : Pn1 < 4 := by rw [eP1]; exact own_P1 b0 b1 b2 b3
        obtain ⟨Pn2, eP2⟩ : ∃ z : Nat, z = own_L b0 b1 b2 b3 b2 + ((if b0 = b2 then 1 else 0) + (if b1 = b2 then 1 else 0)) := ⟨_, rfl⟩
        have hP2 : Pn2 < 4 := by rw [eP2]; exact own_P2 b0 b1 b2 b3
        obtain ⟨Pn3, eP3⟩ : ∃ z : Nat, z = own_L b0 b1 b2 b3 b3 + ((if b0 = b3 then 1 else 0) + (if b1 = b3 then 1 else 0) + (if b2 = b3 then 1 else 0)) := ⟨_, rfl⟩
        have hP3 : Pn3 < 4 := by rw [eP3]; exact own_P3 b0 b1 b2 b3
        refine k_iconst (z := (0 : Int32)) (pc' := 224) C P d4_223 rfl rfl ?_
        refine k_istore (l' := #[.val (.ref ka), .val (.int (4 : Int32)), .val (.ref u), .val (.ref o), .val (.long df), .second, .val (.ref ub), .val (.ref ob), .val (.ref cn), .val (.int sh), .val (.int (0 : Int32)), .val (.int (4 : Int32)), .val (.int (4 : Int32)), .val (.long (A 3)), .second]) (pc' := 226) C P d4_224 rfl rfl ?_
        refine k_iload (pc' := 228) C P d4_226 rfl rfl ?_
        refine k_iloadN (pc' := 229) C P d4_228 rfl rfl ?_
        refine k_icN (pc' := 232) C P d4_229 (show (0 : Int32) < (4 : Int32) by decide) rfl ?_
        refine k_aload (pc' := 234) C P d4_232 rfl rfl rfl ?_
        refine k_aloadN (pc' := 235) C P d4_234 rfl rfl rfl ?_
        refine k_iload (pc' := 237) C P d4_235 rfl rfl ?_
        refine k_laload (J := 0) (v := (.long (A 0))) (pc' := 238) C P Hu d4_237 rfl (by decide) rfl rfl ?_
        refine k_iload (pc' := 240) C P d4_238 rfl rfl ?_
        refine k_lushr (pc' := 241) C P d4_240 rfl ?_
        refine k_ldc2L (pc' := 244) C P (C.w 23 rfl) d4_241 rfl ?_
        refine k_land (pc' := 245) C P d4_244 rfl ?_
        refine k_l2i (pc' := 246) C P d4_245 rfl ?_
        refine k_dup2 (pc' := 247) C P d4_246 rfl rfl rfl ?_
        have Hc8 : KVA Z _ cn kc .int 257 (fun j => .int (own_n ((if j < 256 then own_L b0 b1 b2 b3 j else own_E b0 b1 b2 b3 j) + (0)))) := Hcn
        refine k_iaload (J := b0) (v := (.int (own_n ((if b0 < 256 then own_L b0 b1 b2 b3 b0 else own_E b0 b1 b2 b3 b0) + (0))))) (pc' := 248) C P Hc8 d4_247 hb0 (by omega) rfl rfl ?_
        refine k_dupX2 (pc' := 249) C P d4_248 rfl rfl rfl rfl ?_
        refine k_iconst (z := (1 : Int32)) (pc' := 250) C P d4_249 rfl rfl ?_
        refine k_iadd (pc' := 251) C P d4_250 rfl ?_
        refine k_iastore (J := b0) (g' := (fun j => Value.int (own_n ((if j < 256 then own_L b0 b1 b2 b3 j else own_E b0 b1 b2 b3 j) + ((if b0 = j then 1 else 0)))))) (pc' := 252) C P Hc8 d4_251 hb0 (by omega) (fun j _ => own_inc0 (fun j => if j < 256 then own_L b0 b1 b2 b3 j else own_E b0 b1 b2 b3 j) (fun j => 0) b0 j) ge_cn sz_cn rfl ?_
        intro T9 h9 P9 W9 V9
        have f9_u := Hu.other W9 (KVA.neT Hu Hc8 nofun)
        have f9_o := Ho.other W9 ne_o_cn
        have f9_ub := Hub.other W9 (KVA.neT Hub Hc8 nofun)
        have f9_ob := Hob.other W9 ne_ob_cn
        obtain ⟨z10, e_z10⟩ : ∃ z, z = (own_n ((if b0 < 256 then own_L b0 b1 b2 b3 b0 else own_E b0 b1 b2 b3 b0) + (0))) := ⟨_, rfl⟩
        rw [← e_z10]
        have hz10 : z10.toInt = (Pn0 : Int) := by rw [e_z10, eP0, if_pos hl0]; exact own_nt (Nat.lt_of_lt_of_le (own_P0 b0 b1 b2 b3) (by decide))
        refine k_istore (l' := #[.val (.ref ka), .val (.int (4 : Int32)), .val (.ref u), .val (.ref o), .val (.long df), .second, .val (.ref ub), .val (.ref ob), .val (.ref cn), .val (.int sh), .val (.int (0 : Int32)), .val (.int z10), .val (.int (4 : Int32)), .val (.long (A 3)), .second]) (pc' := 254) C P9 d4_252 rfl rfl ?_
        refine k_aload (pc' := 256) C P9 d4_254 rfl rfl rfl ?_
        refine k_iload (pc' := 258) C P9 d4_256 rfl rfl ?_
        refine k_aloadN (pc' := 259) C P9 d4_258 rfl rfl rfl ?_
        refine k_iload (pc' := 261) C P9 d4_259 rfl rfl ?_
        refine k_laload (J := 0) (v := (.long (A 0))) (pc' := 262) C P9 f9_u d4_261 rfl (by decide) rfl rfl ?_
        refine k_lastore (J := Pn0) (g' := (fun j => Value.long (if j = Pn0 then A 0 else UB j))) (pc' := 263) C P9 f9_ub d4_262 hz10 hP0 (fun j _ => own_wl j Pn0) ge_ub sz_ub rfl ?_
        intro T11 h11 P11 W11 V11
        have f11_u := f9_u.other W11 ne_u_ub
        have f11_o := f9_o.other W11 (KVA.neT f9_o f9_ub nofun)
        have f11_ob := f9_ob.other W11 (KVA.neT f9_ob f9_ub nofun)
        have f11_cn := V9.other W11 (KVA.neT V9 f9_ub nofun)
        refine k_aload (pc' := 265) C P11 d4_263 rfl rfl rfl ?_
        refine k_iload (pc' := 267) C P11 d4_265 rfl rfl ?_
        refine k_aloadN (pc' := 268) C P11 d4_267 rfl rfl rfl ?_
        refine k_iload (pc' := 270) C P11 d4_268 rfl rfl ?_
        refine k_iaload (J := 0) (v := (.int (O 0))) (pc' := 271) C P11 f11_o d4_270 rfl (by decide) rfl rfl ?_
        refine k_iastore (J := Pn0) (g' := (fun j => Value.int (if j = Pn0 then O 0 else OB j))) (pc' := 272) C P11 f11_ob d4_271 hz10 hP0 (fun j _ => own_wi j Pn0) ge_ob sz_ob rfl ?_
        intro T12 h12 P12 W12 V12
        have f12_u := f11_u.other W12 (KVA.neT f11_u f11_ob nofun)
        have f12_o := f11_o.other W12 ne_o_ob
        have f12_ub := V11.other W12 (KVA.neT V11 f11_ob nofun)
        have f12_cn := f11_cn.other W12 (Ne.symm ne_ob_cn)
        refine k_iinc (z := (1 : Int32)) (l' := #[.val (.ref ka), .val (.int (4 : Int32)), .val (.ref u), .val (.ref o), .val (.long df), .second, .val (.ref ub), .val (.ref ob), .val (.ref cn), .val (.int sh), .val (.int (1 : Int32)), .val (.int z10), .val (.int (4 : Int32)), .val (.long (A 3)), .second]) (pc' := 275) C P12 d4_272 rfl rfl rfl rfl ?_
        refine k_goto (pc' := 226) C P12 d4_275 (by decide) (by decide) ?_
        refine k_iload (pc' := 228) C P12 d4_226 rfl rfl ?_
        refine k_iloadN (pc' := 229) C P12 d4_228 rfl rfl ?_
        refine k_icN (pc' := 232) C P12 d4_229 (show (1 : Int32) < (4 : Int32) by decide) rfl ?_
        refine k_aload (pc' := 234) C P12 d4_232 rfl rfl rfl ?_
        refine k_aloadN (pc' := 235) C P12 d4_234 rfl rfl rfl ?_
        refine k_iload (pc' := 237) C P12 d4_235 rfl rfl ?_
        refine k_laload (J := 1) (v := (.long (A 1))) (pc' := 238) C P12 f12_u d4_237 rfl (by decide) rfl rfl ?_
        refine k_iload (pc' := 240) C P12 d4_238 rfl rfl ?_
        refine k_lushr (pc' := 241) C P12 d4_240 rfl ?_
        refine k_ldc2L (pc' := 244) C P12 (C.w 23 rfl) d4_241 rfl ?_
        refine k_land (pc' := 245) C P12 d4_244 rfl ?_
        refine k_l2i (pc' := 246) C P12 d4_245 rfl ?_
        refine k_dup2 (pc' := 247) C P12 d4_246 rfl rfl rfl ?_
        refine k_iaload (J := b1) (v := (.int (own_n ((if b1 < 256 then own_L b0 b1 b2 b3 b1 else own_E b0 b1 b2 b3 b1) + ((if b0 = b1 then 1 else 0)))))) (pc' := 248) C P12 f12_cn d4_247 hb1 (by omega) rfl rfl ?_
        refine k_dupX2 (pc' := 249) C P12 d4_248 rfl rfl rfl rfl ?_
        refine k_iconst (z := (1 : Int32)) (pc' := 250) C P12 d4_249 rfl rfl ?_
        refine k_iadd (pc' := 251) C P12 d4_250 rfl ?_
        refine k_iastore (J := b1) (g' := (fun j => Value.int (own_n ((if j < 256 then own_L b0 b1 b2 b3 j else own_E b0 b1 b2 b3 j) + ((if b0 = j then 1 else 0) + (if b1 = j then 1 else 0)))))) (pc' := 252) C P12 f12_cn d4_251 hb1 (by omega) (fun j _ => own_inc (fun j => if j < 256 then own_L b0 b1 b2 b3 j else own_E b0 b1 b2 b3 j) (fun j => (if b0 = j then 1 else 0)) b1 j) ge_cn sz_cn rfl ?_
        intro T13 h13 P13 W13 V13
        have f13_u := f12_u.other W13 (KVA.neT f12_u f12_cn nofun)
        have f13_o := f12_o.other W13 ne_o_cn
        have f13_ub := f12_ub.other W13 (KVA.neT f12_ub f12_cn nofun)
        have f13_ob := V12.other W13 ne_ob_cn
        obtain ⟨z14, e_z14⟩ : ∃ z, z = (own_n ((if b1 < 256 then own_L b0 b1 b2 b3 b1 else own_E b0 b1 b2 b3 b1) + ((if b0 = b1 then 1 else 0)))) := ⟨_, rfl⟩
        rw [← e_z14]
        have hz14 : z14.toInt = (Pn1 : Int) := by rw [e_z14, eP1, if_pos hl1]; exact own_nt (Nat.lt_of_lt_of_le (own_P1 b0 b1 b2 b3) (by decide))
        refine k_istore (l' := #[.val (.ref ka), .val (.int (4 : Int32)), .val (.ref u), .val (.ref o), .val (.long df), .second, .val (.ref ub), .val (.ref ob), .val (.ref cn), .val (.int sh), .val (.int (1 : Int32)), .val (.int z14), .val (.int (4 : Int32)), .val (.long (A 3)), .second]) (pc' := 254) C P13 d4_252 rfl rfl ?_
        refine k_aload (pc' := 256) C P13 d4_254 rfl rfl rfl ?_
        refine k_iload (pc' := 258) C P13 d4_256 rfl rfl ?_
        refine k_aloadN (pc' := 259) C P13 d4_258 rfl rfl rfl ?_
        refine k_iload (pc' := 261) C P13 d4_259 rfl rfl ?_
        refine k_laload (J := 1) (v := (.long (A 1))) (pc' := 262) C P13 f13_u d4_261 rfl (by decide) rfl rfl ?_
        refine k_lastore (J := Pn1) (g' := (fun j => Value.long (if j = Pn1 then A 1 else if j = Pn0 then A 0 else UB j))) (pc' := 263) C P13 f13_ub d4_262 hz14 hP1 (fun j _ => own_wl j Pn1) ge_ub sz_ub rfl ?_
        intro T15 h15 P15 W15 V15
        have f15_u := f13_u.other W15 ne_u_ub
        have f15_o := f13_o.other W15 (KVA.neT f13_o f13_ub nofun)
        have f15_ob := f13_ob.other W15 (KVA.neT f13_ob f13_ub nofun)
        have f15_cn := V13.other W15 (KVA.neT V13 f13_ub nofun)
        refine k_aload (pc' := 265) C P15 d4_263 rfl rfl rfl ?_
        refine k_iload (pc' := 267) C P15 d4_265 rfl rfl ?_
        refine k_aloadN (pc' := 268) C P15 d4_267 rfl rfl rfl ?_
        refine k_iload (pc' := 270) C P15 d4_268 rfl rfl ?_
        refine k_iaload (J := 1) (v := (.int (O 1))) (pc' := 271) C P15 f15_o d4_270 rfl (by decide) rfl rfl ?_
        refine k_iastore (J := Pn1) (g' := (fun j => Value.int (if j = Pn1 then O 1 else if j = Pn0 then O 0 else OB j))) (pc' := 272) C P15 f15_ob d4_271 hz14 hP1 (fun j _ => own_wi j Pn1) ge_ob sz_ob rfl ?_
        intro T16 h16 P16 W16 V16
        have f16_u := f15_u.other W16 (KVA.neT f15_u f15_ob nofun)
        have f16_o := f15_o.other W16 ne_o_ob
        have f16_ub := V15.other W16 (KVA.neT V15 f15_ob nofun)
        have f16_cn := f15_cn.other W16 (Ne.symm ne_ob_cn)
        refine k_iinc (z := (2 : Int32)) (l' := #[.val (.ref ka), .val (.int (4 : Int32)), .val (.ref u), .val (.ref o), .val (.long df), .second, .val (.ref ub), .val (.ref ob), .val (.ref cn), .val (.int sh), .val (.int (2 : Int32)), .val (.int z14), .val (.int (4 : Int32)), .val (.long (A 3)), .second]) (pc' := 275) C P16 d4_272 rfl rfl rfl rfl ?_
        refine k_goto (pc' := 226) C P16 d4_275 (by decide) (by decide) ?_
        refine k_iload (pc' := 228) C P16 d4_226 rfl rfl ?_
        refine k_iloadN (pc' := 229) C P16 d4_228 rfl rfl ?_
        refine k_icN (pc' := 232) C P16 d4_229 (show (2 : Int32) < (4 : Int32) by decide) rfl ?_
        refine k_aload (pc' := 234) C P16 d4_232 rfl rfl rfl ?_
        refine k_aloadN (pc' := 235) C P16 d4_234 rfl rfl rfl ?_
        refine k_iload (pc' := 237) C P16 d4_235 rfl rfl ?_
        refine k_laload (J := 2) (v := (.long (A 2))) (pc' := 238) C P16 f16_u d4_237 rfl (by decide) rfl rfl ?_
        refine k_iload (pc' := 240) C P16 d4_238 rfl rfl ?_
        refine k_lushr (pc' := 241) C P16 d4_240 rfl ?_
        refine k_ldc2L (pc' := 244) C P16 (C.w 23 rfl) d4_241 rfl ?_
        refine k_land (pc' := 245) C P16 d4_244 rfl ?_
        refine k_l2i (pc' := 246) C P16 d4_245 rfl ?_
        refine k_dup2 (pc' := 247) C P16 d4_246 rfl rfl rfl ?_
        refine k_iaload (J := b2) (v := (.int (own_n ((if b2 < 256 then own_L b0 b1 b2 b3 b2 else own_E b0 b1 b2 b3 b2) + ((if b0 = b2 then 1 else 0) + (if b1 = b2 then 1 else 0)))))) (pc' := 248) C P16 f16_cn d4_247 hb2 (by omega) rfl rfl ?_
        refine k_dupX2 (pc' := 249) C P16 d4_248 rfl rfl rfl rfl ?_
        refine k_iconst (z := (1 : Int32)) (pc' := 250) C P16 d4_249 rfl rfl ?_
        refine k_iadd (pc' := 251) C P16 d4_250 rfl ?_
        refine k_iastore (J := b2) (g' := (fun j => Value.int (own_n ((if j < 256 then own_L b0 b1 b2 b3 j else own_E b0 b1 b2 b3 j) + ((if b0 = j then 1 else 0) + (if b1 = j then 1 else 0) + (if b2 = j then 1 else 0)))))) (pc' := 252) C P16 f16_cn d4_251 hb2 (by omega) (fun j _ => own_inc (fun j => if j < 256 then own_L b0 b1 b2 b3 j else own_E b0 b1 b2 b3 j) (fun j => (if b0 = j then 1 else 0) + (if b1 = j then 1 else 0)) b2 j) ge_cn sz_cn rfl ?_
        intro T17 h17 P17 W17 V17
        have f17_u := f16_u.other W17 (KVA.neT f16_u f16_cn nofun)
        have f17_o := f16_o.other W17 ne_o_cn
        have f17_ub := f16_ub.other W17 (KVA.neT f16_ub f16_cn nofun)
        have f17_ob := V16.other W17 ne_ob_cn
        obtain ⟨z18, e_z18⟩ : ∃ z, z = (own_n ((if b2 < 256 then own_L b0 b1 b2 b3 b2 else own_E b0 b1 b2 b3 b2) + ((if b0 = b2 then 1 else 0) + (if b1 = b2 then 1 else 0)))) := ⟨_, rfl⟩
        rw [← e_z18]
        have hz18 : z18.toInt = (Pn2 : Int) := by rw [e_z18, eP2, if_pos hl2]; exact own_nt (Nat.lt_of_lt_of_le (own_P2 b0 b1 b2 b3) (by decide))
        refine k_istore (l' := #[.val (.ref ka), .val (.int (4 : Int32)), .val (.ref u), .val (.ref o), .val (.long df), .second, .val (.ref ub), .val (.ref ob), .val (.ref cn), .val (.int sh), .val (.int (2 : Int32)), .val (.int z18), .val (.int (4 : Int32)), .val (.long (A 3)), .second]) (pc' := 254) C P17 d4_252 rfl rfl ?_
        refine k_aload (pc' := 256) C P17 d4_254 rfl rfl rfl ?_
        refine k_iload (pc' := 258) C P17 d4_256 rfl rfl ?_
        refine k_aloadN (pc' := 259) C P17 d4_258 rfl rfl rfl ?_
        refine k_iload (pc' := 261) C P17 d4_259 rfl rfl ?_
        refine k_laload (J := 2) (v := (.long (A 2))) (pc' := 262) C P17 f17_u d4_261 rfl (by decide) rfl rfl ?_
        refine k_lastore (J := Pn2) (g' := (fun j => Value.long (if j = Pn2 then A 2 else if j = Pn1 then A 1 else if j = Pn0 then A 0 else UB j))) (pc' := 263) C P17 f17_ub d4_262 hz18 hP2 (fun j _ => own_wl j Pn2) ge_ub sz_ub rfl ?_
        intro T19 h19 P19 W19 V19
        have f19_u := f17_u.other W19 ne_u_ub
        have f19_o := f17_o.other W19 (KVA.neT f17_o f17_ub nofun)
        have f19_ob := f17_ob.other W19 (KVA.neT f17_ob f17_ub nofun)
        have f19_cn := V17.other W19 (KVA.neT V17 f17_ub nofun)
        refine k_aload (pc' := 265) C P19 d4_263 rfl rfl rfl ?_
        refine k_iload (pc' := 267) C P19 d4_265 rfl rfl ?_
        refine k_aloadN (pc' := 268) C P19 d4_267 rfl rfl rfl ?_
        refine k_iload (pc' := 270) C P19 d4_268 rfl rfl ?_
        refine k_iaload (J := 2) (v := (.int (O 2))) (pc' := 271) C P19 f19_o d4_270 rfl (by decide) rfl rfl ?_
        refine k_iastore (J := Pn2) (g' := (fun j => Value.int (if j = Pn2 then O 2 else if j = Pn1 then O 1 else if j = Pn0 then O 0 else OB j))) (pc' := 272) C P19 f19_ob d4_271 hz18 hP2 (fun j _ => own_wi j Pn2) ge_ob sz_ob rfl ?_
        intro T20 h20 P20 W20 V20
        have f20_u := f19_u.other W20 (KVA.neT f19_u f19_ob nofun)
        have f20_o := f19_o.other W20 ne_o_ob
        have f20_ub := V19.other W20 (KVA.neT V19 f19_ob nofun)
        have f20_cn := f19_cn.other W20 (Ne.symm ne_ob_cn)
        refine k_iinc (z := (3 : Int32)) (l' := #[.val (.ref ka), .val (.int (4 : Int32)), .val (.ref u), .val (.ref o), .val (.long df), .second, .val (.ref ub), .val (.ref ob), .val (.ref cn), .val (.int sh), .val (.int (3 : Int32)), .val (.int z18), .val (.int (4 : Int32)), .val (.long (A 3)), .second]) (pc' := 275) C P20 d4_272 rfl rfl rfl rfl ?_
        refine k_goto (pc' := 226) C P20 d4_275 (by decide) (by decide) ?_
        refine k_iload (pc' := 228) C P20 d4_226 rfl rfl ?_
        refine k_iloadN (pc' := 229) C P20 d4_228 rfl rfl ?_
        refine k_icN (pc' := 232) C P20 d4_229 (show (3 : Int32) < (4 : Int32) by decide) rfl ?_
        refine k_aload (pc' := 234) C P20 d4_232 rfl rfl rfl ?_
        refine k_aloadN (pc' := 235) C P20 d4_234 rfl rfl rfl ?_
        refine k_iload (pc' := 237) C P20 d4_235 rfl rfl ?_
        refine k_laload (J := 3) (v := (.long (A 3))) (pc' := 238) C P20 f20_u d4_237 rfl (by decide) rfl rfl ?_
        refine k_iload (pc' := 240) C P20 d4_238 rfl rfl ?_
        refine k_lushr (pc' := 241) C P20 d4_240 rfl ?_
        refine k_ldc2L (pc' := 244) C P20 (C.w 23 rfl) d4_241 rfl ?_
        refine k_land (pc' := 245) C P20 d4_244 rfl ?_
        refine k_l2i (pc' := 246) C P20 d4_245 rfl ?_
        refine k_dup2 (pc' := 247) C P20 d4_246 rfl rfl rfl ?_
        refine k_iaload (J := b3) (v := (.int (own_n ((if b3 < 256 then own_L b0 b1 b2 b3 b3 else own_E b0 b1 b2 b3 b3) + ((if b0 = b3 then 1 else 0) + (if b1 = b3 then 1 else 0) + (if b2 = b3 then 1 else 0)))))) (pc' := 248) C P20 f20_cn d4_247 hb3 (by omega) rfl rfl ?_
        refine k_dupX2 (pc' := 249) C P20 d4_248 rfl rfl rfl rfl ?_
        refine k_iconst (z := (1 : Int32)) (pc' := 250) C P20 d4_249 rfl rfl ?_
        refine k_iadd (pc' := 251) C P20 d4_250 rfl ?_
        refine k_iastore (J := b3) (g' := (fun j => Value.int (own_n ((if j < 256 then own_L b0 b1 b2 b3 j else own_E b0 b1 b2 b3 j) + ((if b0 = j then 1 else 0) + (if b1 = j then 1 else 0) + (if b2 = j then 1 else 0) + (if b3 = j then 1 else 0)))))) (pc' := 252) C P20 f20_cn d4_251 hb3 (by omega) (fun j _ => own_inc (fun j => if j < 256 then own_L b0 b1 b2 b3 j else own_E b0 b1 b2 b3 j) (fun j => (if b0 = j then 1 else 0) + (if b1 = j then 1 else 0) + (if b2 = j then 1 else 0)) b3 j) ge_cn sz_cn rfl ?_
        intro T21 h21 P21 W21 V21
        have f21_u := f20_u.other W21 (KVA.neT f20_u f20_cn nofun)
        have f21_o := f20_o.other W21 ne_o_cn
        have f21_ub := f20_ub.other W21 (KVA.neT f20_ub f20_cn nofun)
        have f21_ob := V20.other W21 ne_ob_cn
        obtain ⟨z22, e_z22⟩ : ∃ z, z = (own_n ((if b3 < 256 then own_L b0 b1 b2 b3 b3 else own_E b0 b1 b2 b3 b3) + ((if b0 = b3 then 1 else 0) + (if b1 = b3 then 1 else 0) + (if b2 = b3 then 1 else 0)))) := ⟨_, rfl⟩
        rw [← e_z22]
        have hz22 : z22.toInt = (Pn3 : Int) := by rw [e_z22, eP3, if_pos hl3]; exact own_nt (Nat.lt_of_lt_of_le (own_P3 b0 b1 b2 b3) (by decide))
        refine k_istore (l' := #[.val (.ref ka), .val (.int (4 : Int32)), .val (.ref u), .val (.ref o), .val (.long df), .second, .val (.ref ub), .val (.ref ob), .val (.ref cn), .val (.int sh), .val (.int (3 : Int32)), .val (.int z22), .val (.int (4 : Int32)), .val (.long (A 3)), .second]) (pc' := 254) C P21 d4_252 rfl rfl ?_
        refine k_aload (pc' := 256) C P21 d4_254 rfl rfl rfl ?_
        refine k_iload (pc' := 258) C P21 d4_256 rfl rfl ?_
        refine k_aloadN (pc' := 259) C P21 d4_258 rfl rfl rfl ?_
        refine k_iload (pc' := 261) C P21 d4_259 rfl rfl ?_
        refine k_laload (J := 3) (v := (.long (A 3))) (pc' := 262) C P21 f21_u d4_261 rfl (by decide) rfl rfl ?_
        refine k_lastore (J := Pn3) (g' := (fun j => Value.long (if j = Pn3 then A 3 else if j = Pn2 then A 2 else if j = Pn1 then A 1 else if j = Pn0 then A 0 else UB j))) (pc' := 263) C P21 f21_ub d4_262 hz22 hP3 (fun j _ => own_wl j Pn3) ge_ub sz_ub rfl ?_
        intro T23 h23 P23 W23 V23
        have f23_u := f21_u.other W23 ne_u_ub
        have f23_o := f21_o.other W23 (KVA.neT f21_o f21_ub nofun)
        have f23_ob := f21_ob.other W23 (KVA.neT f21_ob f21_ub nofun)
        have f23_cn := V21.other W23 (KVA.neT V21 f21_ub nofun)
        refine k_aload (pc' := 265) C P23 d4_263 rfl rfl rfl ?_
        refine k_iload (pc' := 267) C P23 d4_265 rfl rfl ?_
        refine k_aloadN (pc' := 268) C P23 d4_267 rfl rfl rfl ?_
        refine k_iload (pc' := 270) C P23 d4_268 rfl rfl ?_
        refine k_iaload (J := 3) (v := (.int (O 3))) (pc' := 271) C P23 f23_o d4_270 rfl (by decide) rfl rfl ?_
        refine k_iastore (J := Pn3) (g' := (fun j => Value.int (if j = Pn3 then O 3 else if j = Pn2 then O 2 else if j = Pn1 then O 1 else if j = Pn0 then O 0 else OB j))) (pc' := 272) C P23 f23_ob d4_271 hz22 hP3 (fun j _ => own_wi j Pn3) ge_ob sz_ob rfl ?_
        intro T24 h24 P24 W24 V24
        have f24_u := f23_u.other W24 (KVA.neT f23_u f23_ob nofun)
        have f24_o := f23_o.other W24 ne_o_ob
        have f24_ub := V23.other W24 (KVA.neT V23 f23_ob nofun)
        have f24_cn := f23_cn.other W24 (Ne.symm ne_ob_cn)
        refine k_iinc (z := (4 : Int32)) (l' := #[.val (.ref ka), .val (.int (4 : Int32)), .val (.ref u), .val (.ref o), .val (.long df), .second, .val (.ref ub), .val (.ref ob), .val (.ref cn), .val (.int sh), .val (.int (4 : Int32)), .val (.int z22), .val (.int (4 : Int32)), .val (.long (A 3)), .second]) (pc' := 275) C P24 d4_272 rfl rfl rfl rfl ?_
        refine k_goto (pc' := 226) C P24 d4_275 (by decide) (by decide) ?_
        refine k_iload (pc' := 228) C P24 d4_226 rfl rfl ?_
        refine k_iloadN (pc' := 229) C P24 d4_228 rfl rfl ?_
        refine k_icY (pc' := 278) C P24 d4_229 (show ¬ (4 : Int32) < 4 by decide) (by decide) (by decide) ?_
        refine k_aloadN (pc' := 279) C P24 d4_278 rfl rfl rfl ?_
        refine k_astore (l' := #[.val (.ref ka), .val (.int (4 : Int32)), .val (.ref u), .val (.ref o), .val (.long df), .second, .val (.ref ub), .val (.ref ob), .val (.ref cn), .val (.int sh), .val (.ref u), .val (.int z22), .val (.int (4 : Int32)), .val (.long (A 3)), .second]) (pc' := 281) C P24 d4_279 rfl rfl rfl ?_
        refine k_aload (pc' := 283) C P24 d4_281 rfl rfl rfl ?_
        refine k_astoreN (l' := #[.val (.ref ka), .val (.int (4 : Int32)), .val (.ref ub), .val (.ref o), .val (.long df), .second, .val (.ref ub), .val (.ref ob), .val (.ref cn), .val (.int sh), .val (.ref u), .val (.int z22), .val (.int (4 : Int32)), .val (.long (A 3)), .second]) (pc' := 284) C P24 d4_283 rfl rfl rfl ?_
        refine k_aload (pc' := 286) C P24 d4_284 rfl rfl rfl ?_
        refine k_astore (l' := #[.val (.ref ka), .val (.int (4 : Int32)), .val (.ref ub), .val (.ref o), .val (.long df), .second, .val (.ref u), .val (.ref ob), .val (.ref cn), .val (.int sh), .val (.ref u), .val (.int z22), .val (.int (4 : Int32)), .val (.long (A 3)), .second]) (pc' := 288) C P24 d4_286 rfl rfl rfl ?_
        refine k_aloadN (pc' := 289) C P24 d4_288 rfl rfl rfl ?_
        refine k_astore (l' := #[.val (.ref ka), .val (.int (4 : Int32)), .val (.ref ub), .val (.ref o), .val (.long df), .second, .val (.ref u), .val (.ref ob), .val (.ref cn), .val (.int sh), .val (.ref u), .val (.ref o), .val (.int (4 : Int32)), .val (.long (A 3)), .second]) (pc' := 291) C P24 d4_289 rfl rfl rfl ?_
        refine k_aload (pc' := 293) C P24 d4_291 rfl rfl rfl ?_
        refine k_astoreN (l' := #[.val (.ref ka), .val (.int (4 : Int32)), .val (.ref ub), .val (.ref ob), .val (.long df), .second, .val (.ref u), .val (.ref ob), .val (.ref cn), .val (.int sh), .val (.ref u), .val (.ref o), .val (.int (4 : Int32)), .val (.long (A 3)), .second]) (pc' := 294) C P24 d4_293 rfl rfl rfl ?_
        refine k_aload (pc' := 296) C P24 d4_294 rfl rfl rfl ?_
        refine k_astore (l' := #[.val (.ref ka), .val (.int (4 : Int32)), .val (.ref ub), .val (.ref ob), .val (.long df), .second, .val (.ref u), .val (.ref o), .val (.ref cn), .val (.int sh), .val (.ref u), .val (.ref o), .val (.int (4 : Int32)), .val (.long (A 3)), .second]) (pc' := 298) C P24 d4_296 rfl rfl rfl ?_
        refine k_iinc (z := (sh + (8 : Int32))) (l' := #[.val (.ref ka), .val (.int (4 : Int32)), .val (.ref ub), .val (.ref ob), .val (.long df), .second, .val (.ref u), .val (.ref o), .val (.ref cn), .val (.int (sh + (8 : Int32))), .val (.ref u), .val (.ref o), .val (.int (4 : Int32)), .val (.long (A 3)), .second]) (pc' := 301) C P24 d4_298 rfl rfl rfl rfl ?_
        refine k_goto (pc' := 111) C P24 d4_301 (by decide) (by decide) ?_
        have I2 : own_inv U (S + 8) (fun j => if j = Pn3 then A 3 else if j = Pn2 then A 2 else if j = Pn1 then A 1 else if j = Pn0 then A 0 else UB j) (fun j => if j = Pn3 then O 3 else if j = Pn2 then O 2 else if j = Pn1 then O 1 else if j = Pn0 then O 0 else OB j) := own_pass I eb0 eb1 eb2 eb3 eP0 eP1 eP2 eP3 UB OB
        exact ih (S + 8) _ ub ob u o kub kob ku ko _ A _ O _ _ _ _ _ _ _ _ (by omega) (OwnNum.add hsh (show (8 : Int32).toInt = ((8 : Nat) : Int) from rfl) (by omega)) I2 (Or.inr ⟨u, o, _, _, rfl, rfl, rfl, rfl, rfl⟩) (Ne.symm ne_u_ub) (Ne.symm ne_o_ob) ne_ob_cn ne_o_cn ge_ub sz_ub ge_ob sz_ob ge_u sz_u ge_o sz_o P24 f24_ub V24 f24_u f24_o f24_cn
      · skip
        refine k_aload (pc' := 137) C P d4_135 rfl rfl rfl ?_
        refine k_iconst (z := (0 : Int32)) (pc' := 138) C P d4_137 rfl rfl ?_
        refine k_callT (pc' := 141) (cells' := cells) (slots' := slots) (W := 0) C P (C.w 24 rfl) (C.w 25 rfl) (C.w 27 rfl) (C.w 26 rfl) (by decide) (rmFill l Z a0 hw _ n0 P.size cn kc _ Hcn ge_cn) [(.ref cn), (.int (0 : Int32))] [] rfl (lenOf pd_0 rfl) rfl (Nat.le_of_eq rfl) d4_138 rfl hR hRl rfl rfl hRc hRs (allS sz_cn all0) rfl ?_
        intro T25 h25 v25 P25 K25 Q25
        obtain ⟨rfl, V25_⟩ := Q25
        have f25_u := Hu.keep K25 (ninS (KVA.neT Hu Hcn nofun) nin0)
        have f25_o := Ho.keep K25 (ninS ne_o_cn nin0)
        have f25_ub := Hub.keep K25 (ninS (KVA.neT Hub Hcn nofun) nin0)
        have f25_ob := Hob.keep K25 (ninS ne_ob_cn nin0)
        show KGo p e below _ T25 m 141 #[.val (.ref ka), .val (.int (4 : Int32)), .val (.ref u), .val (.ref o), .val (.long df), .second, .val (.ref ub), .val (.ref ob), .val (.ref cn), .val (.int sh), .val (.ref a10), .val (.ref a11), .val (.int c12), .val (.long d13), .second] []
        refine k_aloadN (pc' := 142) C P25 d4_141 rfl rfl rfl ?_
        refine k_astore (l' := #[.val (.ref ka), .val (.int (4 : Int32)), .val (.ref u), .val (.ref o), .val (.long df), .second, .val (.ref ub), .val (.ref ob), .val (.ref cn), .val (.int sh), .val (.ref u), .val (.ref a11), .val (.int c12), .val (.long d13), .second]) (pc' := 144) C P25 d4_142 rfl rfl rfl ?_
        refine k_aload (pc' := 146) C P25 d4_144 rfl rfl rfl ?_
        refine k_arrlen (z := (4 : Int32)) (pc' := 147) C P25 f25_u d4_146 rfl rfl ?_
        refine k_istore (l' := #[.val (.ref ka), .val (.int (4 : Int32)), .val (.ref u), .val (.ref o), .val (.long df), .second, .val (.ref ub), .val (.ref ob), .val (.ref cn), .val (.int sh), .val (.ref u), .val (.int (4 : Int32)), .val (.int c12), .val (.long d13), .second]) (pc' := 149) C P25 d4_147 rfl rfl ?_
        refine k_iconst (z := (0 : Int32)) (pc' := 150) C P25 d4_149 rfl rfl ?_
        refine k_istore (l' := #[.val (.ref ka), .val (.int (4 : Int32)), .val (.ref u), .val (.ref o), .val (.long df), .second, .val (.ref ub), .val (.ref ob), .val (.ref cn), .val (.int sh), .val (.ref u), .val (.int (4 : Int32)), .val (.int (0 : Int32)), .val (.long d13), .second]) (pc' := 152) C P25 d4_150 rfl rfl ?_
        refine k_iload (pc' := 154) C P25 d4_152 rfl rfl ?_
        refine k_iload (pc' := 156) C P25 d4_154 rfl rfl ?_
        refine k_icN (pc' := 159) C P25 d4_156 (show (0 : Int32) < (4 : Int32) by decide) rfl ?_
        refine k_aload (pc' := 161) C P25 d4_159 rfl rfl rfl ?_
        refine k_iload (pc' := 163) C P25 d4_161 rfl rfl ?_
        refine k_laload (J := 0) (v := (.long (A 0))) (pc' := 164) C P25 f25_u d4_163 rfl (by decide) rfl rfl ?_
        refine k_lstore (l' := #[.val (.ref ka), .val (.int (4 : Int32)), .val (.ref u), .val (.ref o), .val (.long df), .second, .val (.ref ub), .val (.ref ob), .val (.ref cn), .val (.int sh), .val (.ref u), .val (.int (4 : Int32)), .val (.int (0 : Int32)), .val (.long (A 0)), .second]) (pc' := 166) C P25 d4_164 rfl rfl ?_
        refine k_aload (pc' := 168) C P25 d4_166 rfl rfl rfl ?_
        refine k_lload (pc' := 170) C P25 d4_168 rfl rfl ?_
        refine k_iload (pc' := 172) C P25 d4_170 rfl rfl ?_
        refine k_lushr (pc' := 173) C P25 d4_172 rfl ?_
        refine k_ldc2L (pc' := 176) C P25 (C.w 23 rfl) d4_173 rfl ?_
        refine k_land (pc' := 177) C P25 d4_176 rfl ?_
        refine k_l2i (pc' := 178) C P25 d4_177 rfl ?_
        refine k_iconst (z := (1 : Int32)) (pc' := 179) C P25 d4_178 rfl rfl ?_
        refine k_iadd (pc' := 180) C P25 d4_179 rfl ?_
        refine k_dup2 (pc' := 181) C P25 d4_180 rfl rfl rfl ?_
        have Hc0 : KVA Z _ cn kc .int 257 (fun j => .int (own_n 0)) := V25_
        refine k_iaload (J := (b0 + 1)) (v := (.int (own_n (0)))) (pc' := 182) C P25 Hc0 d4_181 (OwnNum.add hb0 (show (1 : Int32).toInt = ((1 : Nat) : Int) from rfl) (by omega)) (by omega) rfl rfl ?_
        refine k_iconst (z := (1 : Int32)) (pc' := 183) C P25 d4_182 rfl rfl ?_
        refine k_iadd (pc' := 184) C P25 d4_183 rfl ?_
        refine k_iastore (J := (b0 + 1)) (g' := (fun j => Value.int (own_n ((if b0 + 1 = j then 1 else 0))))) (pc' := 185) C P25 Hc0 d4_184 (OwnNum.add hb0 (show (1 : Int32).toInt = ((1 : Nat) : Int) from rfl) (by omega)) (by omega) (fun j _ => own_cnt0 (fun j => 0) b0 j) ge_cn sz_cn rfl ?_
        intro T26 h26 P26 W26 V26
        have f26_u := f25_u.other W26 (KVA.neT f25_u Hc0 nofun)
        have f26_o := f25_o.other W26 ne_o_cn
        have f26_ub := f25_ub.other W26 (KVA.neT f25_ub Hc0 nofun)
        have f26_ob := f25_ob.other W26 ne_ob_cn
        refine k_iinc (z := (1 : Int32)) (l' := #[.val (.ref ka), .val (.int (4 : Int32)), .val (.ref u), .val (.ref o), .val (.long df), .second, .val (.ref ub), .val (.ref ob), .val (.ref cn), .val (.int sh), .val (.ref u), .val (.int (4 : Int32)), .val (.int (1 : Int32)), .val (.long (A 0)), .second]) (pc' := 188) C P26 d4_185 rfl rfl rfl rfl ?_
        refine k_goto (pc' := 152) C P26 d4_188 (by decide) (by decide) ?_
        refine k_iload (pc' := 154) C P26 d4_152 rfl rfl ?_
        refine k_iload (pc' := 156) C P26 d4_154 rfl rfl ?_
        refine k_icN (pc' := 159) C P26 d4_156 (show (1 : Int32) < (4 : Int32) by decide) rfl ?_
        refine k_aload (pc' := 161) C P26 d4_159 rfl rfl rfl ?_
        refine k_iload (pc' := 163) C P26 d4_161 rfl rfl ?_
        refine k_laload (J := 1) (v := (.long (A 1))) (pc' := 164) C P26 f26_u d4_163 rfl (by decide) rfl rfl ?_
        refine k_lstore (l' := #[.val (.ref ka), .val (.int (4 : Int32)), .val (.ref u), .val (.ref o), .val (.long df), .second, .val (.ref ub), .val (.ref ob), .val (.ref cn), .val (.int sh), .val (.ref u), .val (.int (4 : Int32)), .val (.int (1 : Int32)), .val (.long (A 1)), .second]) (pc' := 166) C P26 d4_164 rfl rfl ?_
        refine k_aload (pc' := 168) C P26 d4_166 rfl rfl rfl ?_
        refine k_lload (pc' := 170) C P26 d4_168 rfl rfl ?_
        refine k_iload (pc' := 172) C P26 d4_170 rfl rfl ?_
        refine k_lushr (pc' := 173) C P26 d4_172 rfl ?_
        refine k_ldc2L (pc' := 176) C P26 (C.w 23 rfl) d4_173 rfl ?_
        refine k_land (pc' := 177) C P26 d4_176 rfl ?_
        refine k_l2i (pc' := 178) C P26 d4_177 rfl ?_
        refine k_iconst (z := (1 : Int32)) (pc' := 179) C P26 d4_178 rfl rfl ?_
        refine k_iadd (pc' := 180) C P26 d4_179 rfl ?_
        refine k_dup2 (pc' := 181) C P26 d4_180 rfl rfl rfl ?_
        refine k_iaload (J := (b1 + 1)) (v := (.int (own_n ((if b0 + 1 = b1 + 1 then 1 else 0))))) (pc' := 182) C P26 V26 d4_181 (OwnNum.add hb1 (show (1 : Int32).toInt = ((1 : Nat) : Int) from rfl) (by omega)) (by omega) rfl rfl ?_
        refine k_iconst (z := (1 : Int32)) (pc' := 183) C P26 d4_182 rfl rfl ?_
        refine k_iadd (pc' := 184) C P26 d4_183 rfl ?_
        refine k_iastore (J := (b1 + 1)) (g' := (fun j => Value.int (own_n ((if b0 + 1 = j then 1 else 0) + (if b1 + 1 = j then 1 else 0))))) (pc' := 185) C P26 V26 d4_184 (OwnNum.add hb1 (show (1 : Int32).toInt = ((1 : Nat) : Int) from rfl) (by omega)) (by omega) (fun j _ => own_cnt (fun j => (if b0 + 1 = j then 1 else 0)) b1 j) ge_cn sz_cn rfl ?_
        intro T27 h27 P27 W27 V27
        have f27_u := f26_u.other W27 (KVA.neT f26_u V26 nofun)
        have f27_o := f26_o.other W27 ne_o_cn
        have f27_ub := f26_ub.other W27 (KVA.neT f26_ub V26 nofun)
        have f27_ob := f26_ob.other W27 ne_ob_cn
        refine k_iinc (z := (2 : Int32)) (l' := #[.val (.ref ka), .val (.int (4 : Int32)), .val (.ref u), .val (.ref o), .val (.long df), .second, .val (.ref ub), .val (.ref ob), .val (.ref cn), .val (.int sh), .val (.ref u), .val (.int (4 : Int32)), .val (.int (2 : Int32)), .val (.long (A 1)), .second]) (pc' := 188) C P27 d4_185 rfl rfl rfl rfl ?_
        refine k_goto (pc' := 152) C P27 d4_188 (by decide) (by decide) ?_
        refine k_iload (pc' := 154) C P27 d4_152 rfl rfl ?_
        refine k_iload (pc' := 156) C P27 d4_154 rfl rfl ?_
        refine k_icN (pc' := 159) C P27 d4_156 (show (2 : Int32) < (4 : Int32) by decide) rfl ?_
        refine k_aload (pc' := 161) C P27 d4_159 rfl rfl rfl ?_
        refine k_iload (pc' := 163) C P27 d4_161 rfl rfl ?_
        refine k_laload (J := 2) (v := (.long (A 2))) (pc' := 164) C P27 f27_u d4_163 rfl (by decide) rfl rfl ?_
        refine k_lstore (l' := #[.val (.ref ka), .val (.int (4 : Int32)), .val (.ref u), .val (.ref o), .val (.long df), .second, .val (.ref ub), .val (.ref ob), .val (.ref cn), .val (.int sh), .val (.ref u), .val (.int (4 : Int32)), .val (.int (2 : Int32)), .val (.long (A 2)), .second]) (pc' := 166) C P27 d4_164 rfl rfl ?_
        refine k_aload (pc' := 168) C P27 d4_166 rfl rfl rfl ?_
        refine k_lload (pc' := 170) C P27 d4_168 rfl rfl ?_
        refine k_iload (pc' := 172) C P27 d4_170 rfl rfl ?_
        refine k_lushr (pc' := 173) C P27 d4_172 rfl ?_
        refine k_ldc2L (pc' := 176) C P27 (C.w 23 rfl) d4_173 rfl ?_
        refine k_land (pc' := 177) C P27 d4_176 rfl ?_
        refine k_l2i (pc' := 178) C P27 d4_177 rfl ?_
        refine k_iconst (z := (1 : Int32)) (pc' := 179) C P27 d4_178 rfl rfl ?_
        refine k_iadd (pc' := 180) C P27 d4_179 rfl ?_
        refine k_dup2 (pc' := 181) C P27 d4_180 rfl rfl rfl ?_
        refine k_iaload (J := (b2 + 1)) (v := (.int (own_n ((if b0 + 1 = b2 + 1 then 1 else 0) + (if b1 + 1 = b2 + 1 then 1 else 0))))) (pc' := 182) C P27 V27 d4_181 (OwnNum.add hb2 (show (1 : Int32).toInt = ((1 : Nat) : Int) from rfl) (by omega)) (by omega) rfl rfl ?_
        refine k_iconst (z := (1 : Int32)) (pc' := 183) C P27 d4_182 rfl rfl ?_
        refine k_iadd (pc' := 184) C P27 d4_183 rfl ?_
        refine k_iastore (J := (b2 + 1)) (g' := (fun j => Value.int (own_n ((if b0 + 1 = j then 1 else 0) + (if b1 + 1 = j then 1 else 0) + (if b2 + 1 = j then 1 else 0))))) (pc' := 185) C P27 V27 d4_184 (OwnNum.add hb2 (show (1 : Int32).toInt = ((1 : Nat) : Int) from rfl) (by omega)) (by omega) (fun j _ => own_cnt (fun j => (if b0 + 1 = j then 1 else 0) + (if b1 + 1 = j then 1 else 0)) b2 j) ge_cn sz_cn rfl ?_
        intro T28 h28 P28 W28 V28
        have f28_u := f27_u.other W28 (KVA.neT f27_u V27 nofun)
        have f28_o := f27_o.other W28 ne_o_cn
        have f28_ub := f27_ub.other W28 (KVA.neT f27_ub V27 nofun)
        have f28_ob := f27_ob.other W28 ne_ob_cn
        refine k_iinc (z := (3 : Int32)) (l' := #[.val (.ref ka), .val (.int (4 : Int32)), .val (.ref u), .val (.ref o), .val (.long df), .second, .val (.ref ub), .val (.ref ob), .val (.ref cn), .val (.int sh), .val (.ref u), .val (.int (4 : Int32)), .val (.int (3 : Int32)), .val (.long (A 2)), .second]) (pc' := 188) C P28 d4_185 rfl rfl rfl rfl ?_
        refine k_goto (pc' := 152) C P28 d4_188 (by decide) (by decide) ?_
        refine k_iload (pc' := 154) C P28 d4_152 rfl rfl ?_
        refine k_iload (pc' := 156) C P28 d4_154 rfl rfl ?_
        refine k_icN (pc' := 159) C P28 d4_156 (show (3 : Int32) < (4 : Int32) by decide) rfl ?_
        refine k_aload (pc' := 161) C P28 d4_159 rfl rfl rfl ?_
        refine k_iload (pc' := 163) C P28 d4_161 rfl rfl ?_
        refine k_laload (J := 3) (v := (.long (A 3))) (pc' := 164) C P28 f28_u d4_163 rfl (by decide) rfl rfl ?_
        refine k_lstore (l' := #[.val (.ref ka), .val (.int (4 : Int32)), .val (.ref u), .val (.ref o), .val (.long df), .second, .val (.ref ub), .val (.ref ob), .val (.ref cn), .val (.int sh), .val (.ref u), .val (.int (4 : Int32)), .val (.int (3 : Int32)), .val (.long (A 3)), .second]) (pc' := 166) C P28 d4_164 rfl rfl ?_
        refine k_aload (pc' := 168) C P28 d4_166 rfl rfl rfl ?_
        refine k_lload (pc' := 170) C P28 d4_168 rfl rfl ?_
        refine k_iload (pc' := 172) C P28 d4_170 rfl rfl ?_
        refine k_lushr (pc' := 173) C P28 d4_172 rfl ?_
        refine k_ldc2L (pc' := 176) C P28 (C.w 23 rfl) d4_173 rfl ?_
        refine k_land (pc' := 177) C P28 d4_176 rfl ?_
        refine k_l2i (pc' := 178) C P28 d4_177 rfl ?_
        refine k_iconst (z := (1 : Int32)) (pc' := 179) C P28 d4_178 rfl rfl ?_
        refine k_iadd (pc' := 180) C P28 d4_179 rfl ?_
        refine k_dup2 (pc' := 181) C P28 d4_180 rfl rfl rfl ?_
        refine k_iaload (J := (b3 + 1)) (v := (.int (own_n ((if b0 + 1 = b3 + 1 then 1 else 0) + (if b1 + 1 = b3 + 1 then 1 else 0) + (if b2 + 1 = b3 + 1 then 1 else 0))))) (pc' := 182) C P28 V28 d4_181 (OwnNum.add hb3 (show (1 : Int32).toInt = ((1 : Nat) : Int) from rfl) (by omega)) (by omega) rfl rfl ?_
        refine k_iconst (z := (1 : Int32)) (pc' := 183) C P28 d4_182 rfl rfl ?_
        refine k_iadd (pc' := 184) C P28 d4_183 rfl ?_
        refine k_iastore (J := (b3 + 1)) (g' := (fun j => Value.int (own_n ((if b0 + 1 = j then 1 else 0) + (if b1 + 1 = j then 1 else 0) + (if b2 + 1 = j then 1 else 0) + (if b3 + 1 = j then 1 else 0))))) (pc' := 185) C P28 V28 d4_184 (OwnNum.add hb3 (show (1 : Int32).toInt = ((1 : Nat) : Int) from rfl) (by omega)) (by omega) (fun j _ => own_cnt (fun j => (if b0 + 1 = j then 1 else 0) + (if b1 + 1 = j then 1 else 0) + (if b2 + 1 = j then 1 else 0)) b3 j) ge_cn sz_cn rfl ?_
        intro T29 h29 P29 W29 V29
        have f29_u := f28_u.other W29 (KVA.neT f28_u V28 nofun)
        have f29_o := f28_o.other W29 ne_o_cn
        have f29_ub := f28_ub.other W29 (KVA.neT f28_ub V28 nofun)
        have f29_ob := f28_ob.other W29 ne_ob_cn
        refine k_iinc (z := (4 : Int32)) (l' := #[.val (.ref ka), .val (.int (4 : Int32)), .val (.ref u), .val (.ref o), .val (.long df), .second, .val (.ref ub), .val (.ref ob), .val (.ref cn), .val (.int sh), .val (.ref u), .val (.int (4 : Int32)), .val (.int (4 : Int32)), .val (.long (A 3)), .second]) (pc' := 188) C P29 d4_185 rfl rfl rfl rfl ?_
        refine k_goto (pc' := 152) C P29 d4_188 (by decide) (by decide) ?_
        refine k_iload (pc' := 154) C P29 d4_152 rfl rfl ?_
        refine k_iload (pc' := 156) C P29 d4_154 rfl rfl ?_
        refine k_icY (pc' := 191) C P29 d4_156 (show ¬ (4 : Int32) < 4 by decide) (by decide) (by decide) ?_
        refine k_iconst (z := (1 : Int32)) (pc' := 192) C P29 d4_191 rfl rfl ?_
        refine k_istore (l' := #[.val (.ref ka), .val (.int (4 : Int32)), .val (.ref u), .val (.ref o), .val (.long df), .second, .val (.ref ub), .val (.ref ob), .val (.ref cn), .val (.int sh), .val (.int (1 : Int32)), .val (.int (4 : Int32)), .val (.int (4 : Int32)), .val (.long (A 3)), .second]) (pc' := 194) C P29 d4_192 rfl rfl ?_
        refine lp_pre C ka u o ub ob cn ku ko kub kob kc A UB O OB ne_u_ub ne_o_ob ne_o_cn ne_ob_cn ge_u sz_u ge_o sz_o ge_ub sz_ub ge_ob sz_ob ge_cn sz_cn b0 b1 b2 b3 df sh 4 4 (A 3) ?_ 255 1 1 _ _ (by omega) (by omega) rfl P29 f29_u f29_o f29_ub f29_ob (V29.congr (fun j _ => own_st j))
        intro T h P Hu Ho Hub Hob Hcn
        obtain ⟨Pn0, eP0⟩ : ∃ z : Nat, z = own_L b0 b1 b2 b3 b0 + (0) := ⟨_, rfl⟩
        have hP0 : Pn0 < 4 := by rw [eP0]; exact own_P0 b0 b1 b2 b3
        obtain ⟨Pn1, eP1⟩ : ∃ z : Nat, z = own_L b0 b1 b2 b3 b1 + ((if b0 = b1 then 1 else 0)) := ⟨_, rfl⟩
        have hP1 : Pn1 < 4 := by rw [eP1]; exact own_P1 b0 b1 b2 b3
        obtain ⟨Pn2, eP2⟩ : ∃ z : Nat, z = own_L b0 b1 b2 b3 b2 + ((if b0 = b2 then 1 else 0) + (if b1 = b2 then 1 else 0)) := ⟨_, rfl⟩
        have hP2 : Pn2 < 4 := by rw [eP2]; exact own_P2 b0 b1 b2 b3
        obtain ⟨Pn3, eP3⟩ : ∃ z : Nat, z = own_L b0 b1 b2 b3 b3 + ((if b0 = b3 then 1 else 0) + (if b1 = b3 then 1 else 0) + (if b2 = b3 then 1 else 0)) := ⟨_, rfl⟩
        have hP3 : Pn3 < 4 := by rw [eP3]; exact own_P3 b0 b1 b2 b3
        refine k_iconst (z := (0 : Int32)) (pc' := 224) C P d4_223 rfl rfl ?_
        refine k_istore (l' := #[.val (.ref ka), .val (.int (4 : Int32)), .val (.ref u), .val (.ref o), .val (.long df), .second, .val (.ref ub), .val (.ref ob), .val (.ref cn), .val (.int sh), .val (.int (0 : Int32)), .val (.int (4 : Int32)), .val (.int (4 : Int32)), .val (.long (A 3)), .second]) (pc' := 226) C P d4_224 rfl rfl ?_
        refine k_iload (pc' := 228) C P d4_226 rfl rfl ?_
        refine k_iloadN (pc' := 229) C P d4_228 rfl rfl ?_
        refine k_icN (pc' := 232) C P d4_229 (show (0 : Int32) < (4 : Int32) by decide) rfl ?_
        refine k_aload (pc' := 234) C P d4_232 rfl rfl rfl ?_
        refine k_aloadN (pc' := 235) C P d4_234 rfl rfl rfl ?_
        refine k_iload (pc' := 237) C P d4_235 rfl rfl ?_
        refine k_laload (J := 0) (v := (.long (A 0))) (pc' := 238) C P Hu d4_237 rfl (by decide) rfl rfl ?_
        refine k_iload (pc' := 240) C P d4_238 rfl rfl ?_
        refine k_lushr (pc' := 241) C P d4_240 rfl ?_
        refine k_ldc2L (pc' := 244) C P (C.w 23 rfl) d4_241 rfl ?_
        refine k_land (pc' := 245) C P d4_244 rfl ?_
        refine k_l2i (pc' := 246) C P d4_245 rfl ?_
        refine k_dup2 (pc' := 247) C P d4_246 rfl rfl rfl ?_
        have Hc30 : KVA Z _ cn kc .int 257 (fun j => .int (own_n ((if j < 256 then own_L b0 b1 b2 b3 j else own_E b0 b1 b2 b3 j) + (0)))) := Hcn
        refine k_iaload (J := b0) (v := (.int (own_n ((if b0 < 256 then own_L b0 b1 b2 b3 b0 else own_E b0 b1 b2 b3 b0) + (0))))) (pc' := 248) C P Hc30 d4_247 hb0 (by omega) rfl rfl ?_
        refine k_dupX2 (pc' := 249) C P d4_248 rfl rfl rfl rfl ?_
        refine k_iconst (z := (1 : Int32)) (pc' := 250) C P d4_249 rfl rfl ?_
        refine k_iadd (pc' := 251) C P d4_250 rfl ?_
        refine k_iastore (J := b0) (g' := (fun j => Value.int (own_n ((if j < 256 then own_L b0 b1 b2 b3 j else own_E b0 b1 b2 b3 j) + ((if b0 = j then 1 else 0)))))) (pc' := 252) C P Hc30 d4_251 hb0 (by omega) (fun j _ => own_inc0 (fun j => if j < 256 then own_L b0 b1 b2 b3 j else own_E b0 b1 b2 b3 j) (fun j => 0) b0 j) ge_cn sz_cn rfl ?_
        intro T31 h31 P31 W31 V31
        have f31_u := Hu.other W31 (KVA.neT Hu Hc30 nofun)
        have f31_o := Ho.other W31 ne_o_cn
        have f31_ub := Hub.other W31 (KVA.neT Hub Hc30 nofun)
        have f31_ob := Hob.other W31 ne_ob_cn
        obtain ⟨z32, e_z32⟩ : ∃ z, z = (own_n ((if b0 < 256 then own_L b0 b1 b2 b3 b0 else own_E b0 b1 b2 b3 b0) + (0))) := ⟨_, rfl⟩
        rw [← e_z32]
        have hz32 : z32.toInt = (Pn0 : Int) := by rw [e_z32, eP0, if_pos hl0]; exact own_nt (Nat.lt_of_lt_of_le (own_P0 b0 b1 b2 b3) (by decide))
        refine k_istore (l' := #[.val (.ref ka), .val (.int (4 : Int32)), .val (.ref u), .val (.ref o), .val (.long df), .second, .val (.ref ub), .val (.ref ob), .val (.ref cn), .val (.int sh), .val (.int (0 : Int32)), .val (.int z32), .val (.int (4 : Int32)), .val (.long (A 3)), .second]) (pc' := 254) C P31 d4_252 rfl rfl ?_
        refine k_aload (pc' := 256) C P31 d4_254 rfl rfl rfl ?_
        refine k_iload (pc' := 258) C P31 d4_256 rfl rfl ?_
        refine k_aloadN (pc' := 259) C P31 d4_258 rfl rfl rfl ?_
        refine k_iload (pc' := 261) C P31 d4_259 rfl rfl ?_
        refine k_laload (J := 0) (v := (.long (A 0))) (pc' := 262) C P31 f31_u d4_261 rfl (by decide) rfl rfl ?_
        refine k_lastore (J := Pn0) (g' := (fun j => Value.long (if j = Pn0 then A 0 else UB j))) (pc' := 263) C P31 f31_ub d4_262 hz32 hP0 (fun j _ => own_wl j Pn0) ge_ub sz_ub rfl ?_
        intro T33 h33 P33 W33 V33
        have f33_u := f31_u.other W33 ne_u_ub
        have f33_o := f31_o.other W33 (KVA.neT f31_o f31_ub nofun)
        have f33_ob := f31_ob.other W33 (KVA.neT f31_ob f31_ub nofun)
        have f33_cn := V31.other W33 (KVA.neT V31 f31_ub nofun)
        refine k_aload (pc' := 265) C P33 d4_263 rfl rfl rfl ?_
        refine k_iload (pc' := 267) C P33 d4_265 rfl rfl ?_
        refine k_aloadN (pc' := 268) C P33 d4_267 rfl rfl rfl ?_
        refine k_iload (pc' := 270) C P33 d4_268 rfl rfl ?_
        refine k_iaload (J := 0) (v := (.int (O 0))) (pc' := 271) C P33 f33_o d4_270 rfl (by decide) rfl rfl ?_
        refine k_iastore (J := Pn0) (g' := (fun j => Value.int (if j = Pn0 then O 0 else OB j))) (pc' := 272) C P33 f33_ob d4_271 hz32 hP0 (fun j _ => own_wi j Pn0) ge_ob sz_ob rfl ?_
        intro T34 h34 P34 W34 V34
        have f34_u := f33_u.other W34 (KVA.neT f33_u f33_ob nofun)
        have f34_o := f33_o.other W34 ne_o_ob
        have f34_ub := V33.other W34 (KVA.neT V33 f33_ob nofun)
        have f34_cn := f33_cn.other W34 (Ne.symm ne_ob_cn)
        refine k_iinc (z := (1 : Int32)) (l' := #[.val (.ref ka), .val (.int (4 : Int32)), .val (.ref u), .val (.ref o), .val (.long df), .second, .val (.ref ub), .val (.ref ob), .val (.ref cn), .val (.int sh), .val (.int (1 : Int32)), .val (.int z32), .val (.int (4 : Int32)), .val (.long (A 3)), .second]) (pc' := 275) C P34 d4_272 rfl rfl rfl rfl ?_
        refine k_goto (pc' := 226) C P34 d4_275 (by decide) (by decide) ?_
        refine k_iload (pc' := 228) C P34 d4_226 rfl rfl ?_
        refine k_iloadN (pc' := 229) C P34 d4_228 rfl rfl ?_
        refine k_icN (pc' := 232) C P34 d4_229 (show (1 : Int32) < (4 : Int32) by decide) rfl ?_
        refine k_aload (pc' := 234) C P34 d4_232 rfl rfl rfl ?_
        refine k_aloadN (pc' := 235) C P34 d4_234 rfl rfl rfl ?_
        refine k_iload (pc' := 237) C P34 d4_235 rfl rfl ?_
        refine k_laload (J := 1) (v := (.long (A 1))) (pc' := 238) C P34 f34_u d4_237 rfl (by decide) rfl rfl ?_
        refine k_iload (pc' := 240) C P34 d4_238 rfl rfl ?_
        refine k_lushr (pc' := 241) C P34 d4_240 rfl ?_
        refine k_ldc2L (pc' := 244) C P34 (C.w 23 rfl) d4_241 rfl ?_
        refine k_land (pc' := 245) C P34 d4_244 rfl ?_
        refine k_l2i (pc' := 246) C P34 d4_245 rfl ?_
        refine k_dup2 (pc' := 247) C P34 d4_246 rfl rfl rfl ?_
        refine k_iaload (J := b1) (v := (.int (own_n ((if b1 < 256 then own_L b0 b1 b2 b3 b1 else own_E b0 b1 b2 b3 b1) + ((if b0 = b1 then 1 else 0)))))) (pc' := 248) C P34 f34_cn d4_247 hb1 (by omega) rfl rfl ?_
        refine k_dupX2 (pc' := 249) C P34 d4_248 rfl rfl rfl rfl ?_
        refine k_iconst (z := (1 : Int32)) (pc' := 250) C P34 d4_249 rfl rfl ?_
        refine k_iadd (pc' := 251) C P34 d4_250 rfl ?_
        refine k_iastore (J := b1) (g' := (fun j => Value.int (own_n ((if j < 256 then own_L b0 b1 b2 b3 j else own_E b0 b1 b2 b3 j) + ((if b0 = j then 1 else 0) + (if b1 = j then 1 else 0)))))) (pc' := 252) C P34 f34_cn d4_251 hb1 (by omega) (fun j _ => own_inc (fun j => if j < 256 then own_L b0 b1 b2 b3 j else own_E b0 b1 b2 b3 j) (fun j => (if b0 = j then 1 else 0)) b1 j) ge_cn sz_cn rfl ?_
        intro T35 h35 P35 W35 V35
        have f35_u := f34_u.other W35 (KVA.neT f34_u f34_cn nofun)
        have f35_o := f34_o.other W35 ne_o_cn
        have f35_ub := f34_ub.other W35 (KVA.neT f34_ub f34_cn nofun)
        have f35_ob := V34.other W35 ne_ob_cn
        obtain ⟨z36, e_z36⟩ : ∃ z, z = (own_n ((if b1 < 256 then own_L b0 b1 b2 b3 b1 else own_E b0 b1 b2 b3 b1) + ((if b0 = b1 then 1 else 0)))) := ⟨_, rfl⟩
        rw [← e_z36]
        have hz36 : z36.toInt = (Pn1 : Int) := by rw [e_z36, eP1, if_pos hl1]; exact own_nt (Nat.lt_of_lt_of_le (own_P1 b0 b1 b2 b3) (by decide))
        refine k_istore (l' := #[.val (.ref ka), .val (.int (4 : Int32)), .val (.ref u), .val (.ref o), .val (.long df), .second, .val (.ref ub), .val (.ref ob), .val (.ref cn), .val (.int sh), .val (.int (1 : Int32)), .val (.int z36), .val (.int (4 : Int32)), .val (.long (A 3)), .second]) (pc' := 254) C P35 d4_252 rfl rfl ?_
        refine k_aload (pc' := 256) C P35 d4_254 rfl rfl rfl ?_
        refine k_iload (pc' := 258) C P35 d4_256 rfl rfl ?_
        refine k_aloadN (pc' := 259) C P35 d4_258 rfl rfl rfl ?_
        refine k_iload (pc' := 261) C P35 d4_259 rfl rfl ?_
        refine k_laload (J := 1) (v := (.long (A 1))) (pc' := 262) C P35 f35_u d4_261 rfl (by decide) rfl rfl ?_
        refine k_lastore (J := Pn1) (g' := (fun j => Value.long (if j = Pn1 then A 1 else if j = Pn0 then A 0 else UB j))) (pc' := 263) C P35 f35_ub d4_262 hz36 hP1 (fun j _ => own_wl j Pn1) ge_ub sz_ub rfl ?_
        intro T37 h37 P37 W37 V37
        have f37_u := f35_u.other W37 ne_u_ub
        have f37_o := f35_o.other W37 (KVA.neT f35_o f35_ub nofun)
        have f37_ob := f35_ob.other W37 (KVA.neT f35_ob f35_ub nofun)
        have f37_cn := V35.other W37 (KVA.neT V35 f35_ub nofun)
        refine k_aload (pc' := 265) C P37 d4_263 rfl rfl rfl ?_
        refine k_iload (pc' := 267) C P37 d4_265 rfl rfl ?_
        refine k_aloadN (pc' := 268) C P37 d4_267 rfl rfl rfl ?_
        refine k_iload (pc' := 270) C P37 d4_268 rfl rfl ?_
        refine k_iaload (J := 1) (v := (.int (O 1))) (pc' := 271) C P37 f37_o d4_270 rfl (by decide) rfl rfl ?_
        refine k_iastore (J := Pn1) (g' := (fun j => Value.int (if j = Pn1 then O 1 else if j = Pn0 then O 0 else OB j))) (pc' := 272) C P37 f37_ob d4_271 hz36 hP1 (fun j _ => own_wi j Pn1) ge_ob sz_ob rfl ?_
        intro T38 h38 P38 W38 V38
        have f38_u := f37_u.other W38 (KVA.neT f37_u f37_ob nofun)
        have f38_o := f37_o.other W38 ne_o_ob
        have f38_ub := V37.other W38 (KVA.neT V37 f37_ob nofun)
        have f38_cn := f37_cn.other W38 (Ne.symm ne_ob_cn)
        refine k_iinc (z := (2 : Int32)) (l' := #[.val (.ref ka), .val (.int (4 : Int32)), .val (.ref u), .val (.ref o), .val (.long df), .second, .val (.ref ub), .val (.ref ob), .val (.ref cn), .val (.int sh), .val (.int (2 : Int32)), .val (.int z36), .val (.int (4 : Int32)), .val (.long (A 3)), .second]) (pc' := 275) C P38 d4_272 rfl rfl rfl rfl ?_
        refine k_goto (pc' := 226) C P38 d4_275 (by decide) (by decide) ?_
        refine k_iload (pc' := 228) C P38 d4_226 rfl rfl ?_
        refine k_iloadN (pc' := 229) C P38 d4_228 rfl rfl ?_
        refine k_icN (pc' := 232) C P38 d4_229 (show (2 : Int32) < (4 : Int32) by decide) rfl ?_
        refine k_aload (pc' := 234) C P38 d4_232 rfl rfl rfl ?_
        refine k_aloadN (pc' := 235) C P38 d4_234 rfl rfl rfl ?_
        refine k_iload (pc' := 237) C P38 d4_235 rfl rfl ?_
        refine k_laload (J := 2) (v := (.long (A 2))) (pc' := 238) C P38 f38_u d4_237 rfl (by decide) rfl rfl ?_
        refine k_iload (pc' := 240) C P38 d4_238 rfl rfl ?_
        refine k_lushr (pc' := 241) C P38 d4_240 rfl ?_
        refine k_ldc2L (pc' := 244) C P38 (C.w 23 rfl) d4_241 rfl ?_
        refine k_land (pc' := 245) C P38 d4_244 rfl ?_
        refine k_l2i (pc' := 246) C P38 d4_245 rfl ?_
        refine k_dup2 (pc' := 247) C P38 d4_246 rfl rfl rfl ?_
        refine k_iaload (J := b2) (v := (.int (own_n ((if b2 < 256 then own_L b0 b1 b2 b3 b2 else own_E b0 b1 b2 b3 b2) + ((if b0 = b2 then 1 else 0) + (if b1 = b2 then 1 else 0)))))) (pc' := 248) C P38 f38_cn d4_247 hb2 (by omega) rfl rfl ?_
        refine k_dupX2 (pc' := 249) C P38 d4_248 rfl rfl rfl rfl ?_
        refine k_iconst (z := (1 : Int32)) (pc' := 250) C P38 d4_249 rfl rfl ?_
        refine k_iadd (pc' := 251) C P38 d4_250 rfl ?_
        refine k_iastore (J := b2) (g' := (fun j => Value.int (own_n ((if j < 256 then own_L b0 b1 b2 b3 j else own_E b0 b1 b2 b3 j) + ((if b0 = j then 1 else 0) + (if b1 = j then 1 else 0) + (if b2 = j then 1 else 0)))))) (pc' := 252) C P38 f38_cn d4_251 hb2 (by omega) (fun j _ => own_inc (fun j => if j < 256 then own_L b0 b1 b2 b3 j else own_E b0 b1 b2 b3 j) (fun j => (if b0 = j then 1 else 0) + (if b1 = j then 1 else 0)) b2 j) ge_cn sz_cn rfl ?_
        intro T39 h39 P39 W39 V39
        have f39_u := f38_u.other W39 (KVA.neT f38_u f38_cn nofun)
        have f39_o := f38_o.other W39 ne_o_cn
        have f39_ub := f38_ub.other W39 (KVA.neT f38_ub f38_cn nofun)
        have f39_ob := V38.other W39 ne_ob_cn
        obtain ⟨z40, e_z40⟩ : ∃ z, z = (own_n ((if b2 < 256 then own_L b0 b1 b2 b3 b2 else own_E b0 b1 b2 b3 b2) + ((if b0 = b2 then 1 else 0) + (if b1 = b2 then 1 else 0)))) := ⟨_, rfl⟩
        rw [← e_z40]
        have hz40 : z40.toInt = (Pn2 : Int) := by rw [e_z40, eP2, if_pos hl2]; exact own_nt (Nat.lt_of_lt_of_le (own_P2 b0 b1 b2 b3) (by decide))
        refine k_istore (l' := #[.val (.ref ka), .val (.int (4 : Int32)), .val (.ref u), .val (.ref o), .val (.long df), .second, .val (.ref ub), .val (.ref ob), .val (.ref cn), .val (.int sh), .val (.int (2 : Int32)), .val (.int z40), .val (.int (4 : Int32)), .val (.long (A 3)), .second]) (pc' := 254) C P39 d4_252 rfl rfl ?_
        refine k_aload (pc' := 256) C P39 d4_254 rfl rfl rfl ?_
        refine k_iload (pc' := 258) C P39 d4_256 rfl rfl ?_
        refine k_aloadN (pc' := 259) C P39 d4_258 rfl rfl rfl ?_
        refine k_iload (pc' := 261) C P39 d4_259 rfl rfl ?_
        refine k_laload (J := 2) (v := (.long (A 2))) (pc' := 262) C P39 f39_u d4_261 rfl (by decide) rfl rfl ?_
        refine k_lastore (J := Pn2) (g' := (fun j => Value.long (if j = Pn2 then A 2 else if j = Pn1 then A 1 else if j = Pn0 then A 0 else UB j))) (pc' := 263) C P39 f39_ub d4_262 hz40 hP2 (fun j _ => own_wl j Pn2) ge_ub sz_ub rfl ?_
        intro T41 h41 P41 W41 V41
        have f41_u := f39_u.other W41 ne_u_ub
        have f41_o := f39_o.other W41 (KVA.neT f39_o f39_ub nofun)
        have f41_ob := f39_ob.other W41 (KVA.neT f39_ob f39_ub nofun)
        have f41_cn := V39.other W41 (KVA.neT V39 f39_ub nofun)
        refine k_aload (pc' := 265) C P41 d4_263 rfl rfl rfl ?_
        refine k_iload (pc' := 267) C P41 d4_265 rfl rfl ?_
        refine k_aloadN (pc' := 268) C P41 d4_267 rfl rfl rfl ?_
        refine k_iload (pc' := 270) C P41 d4_268 rfl rfl ?_
        refine k_iaload (J := 2) (v := (.int (O 2))) (pc' := 271) C P41 f41_o d4_270 rfl (by decide) rfl rfl ?_
        refine k_iastore (J := Pn2) (g' := (fun j => Value.int (if j = Pn2 then O 2 else if j = Pn1 then O 1 else if j = Pn0 then O 0 else OB j))) (pc' := 272) C P41 f41_ob d4_271 hz40 hP2 (fun j _ => own_wi j Pn2) ge_ob sz_ob rfl ?_
        intro T42 h42 P42 W42 V42
        have f42_u := f41_u.other W42 (KVA.neT f41_u f41_ob nofun)
        have f42_o := f41_o.other W42 ne_o_ob
        have f42_ub := V41.other W42 (KVA.neT V41 f41_ob nofun)
        have f42_cn := f41_cn.other W42 (Ne.symm ne_ob_cn)
        refine k_iinc (z := (3 : Int32)) (l' := #[.val (.ref ka), .val (.int (4 : Int32)), .val (.ref u), .val (.ref o), .val (.long df), .second, .val (.ref ub), .val (.ref ob), .val (.ref cn), .val (.int sh), .val (.int (3 : Int32)), .val (.int z40), .val (.int (4 : Int32)), .val (.long (A 3)), .second]) (pc' := 275) C P42 d4_272 rfl rfl rfl rfl ?_
        refine k_goto (pc' := 226) C P42 d4_275 (by decide) (by decide) ?_
        refine k_iload (pc' := 228) C P42 d4_226 rfl rfl ?_
        refine k_iloadN (pc' := 229) C P42 d4_228 rfl rfl ?_
        refine k_icN (pc' := 232) C P42 d4_229 (show (3 : Int32) < (4 : Int32) by decide) rfl ?_
        refine k_aload (pc' := 234) C P42 d4_232 rfl rfl rfl ?_
        refine k_aloadN (pc' := 235) C P42 d4_234 rfl rfl rfl ?_
        refine k_iload (pc' := 237) C P42 d4_235 rfl rfl ?_
        refine k_laload (J := 3) (v := (.long (A 3))) (pc' := 238) C P42 f42_u d4_237 rfl (by decide) rfl rfl ?_
        refine k_iload (pc' := 240) C P42 d4_238 rfl rfl ?_
        refine k_lushr (pc' := 241) C P42 d4_240 rfl ?_
        refine k_ldc2L (pc' := 244) C P42 (C.w 23 rfl) d4_241 rfl ?_
        refine k_land (pc' := 245) C P42 d4_244 rfl ?_
        refine k_l2i (pc' := 246) C P42 d4_245 rfl ?_
        refine k_dup2 (pc' := 247) C P42 d4_246 rfl rfl rfl ?_
        refine k_iaload (J := b3) (v := (.int (own_n ((if b3 < 256 then own_L b0 b1 b2 b3 b3 else own_E b0 b1 b2 b3 b3) + ((if b0 = b3 then 1 else 0) + (if b1 = b3 then 1 else 0) + (if b2 = b3 then 1 else 0)))))) (pc' := 248) C P42 f42_cn d4_247 hb3 (by omega) rfl rfl ?_
        refine k_dupX2 (pc' := 249) C P42 d4_248 rfl rfl rfl rfl ?_
        refine k_iconst (z := (1 : Int32)) (pc' := 250) C P42 d4_249 rfl rfl ?_
        refine k_iadd (pc' := 251) C P42 d4_250 rfl ?_
        refine k_iastore (J := b3) (g' := (fun j => Value.int (own_n ((if j < 256 then own_L b0 b1 b2 b3 j else own_E b0 b1 b2 b3 j) + ((if b0 = j then 1 else 0) + (if b1 = j then 1 else 0) + (if b2 = j then 1 else 0) + (if b3 = j then 1 else 0)))))) (pc' := 252) C P42 f42_cn d4_251 hb3 (by omega) (fun j _ => own_inc (fun j => if j < 256 then own_L b0 b1 b2 b3 j else own_E b0 b1 b2 b3 j) (fun j => (if b0 = j then 1 else 0) + (if b1 = j then 1 else 0) + (if b2 = j then 1 else 0)) b3 j) ge_cn sz_cn rfl ?_
        intro T43 h43 P43 W43 V43
        have f43_u := f42_u.other W43 (KVA.neT f42_u f42_cn nofun)
        have f43_o := f42_o.other W43 ne_o_cn
        have f43_ub := f42_ub.other W43 (KVA.neT f42_ub f42_cn nofun)
        have f43_ob := V42.other W43 ne_ob_cn
        obtain ⟨z44, e_z44⟩ : ∃ z, z = (own_n ((if b3 < 256 then own_L b0 b1 b2 b3 b3 else own_E b0 b1 b2 b3 b3) + ((if b0 = b3 then 1 else 0) + (if b1 = b3 then 1 else 0) + (if b2 = b3 then 1 else 0)))) := ⟨_, rfl⟩
        rw [← e_z44]
        have hz44 : z44.toInt = (Pn3 : Int) := by rw [e_z44, eP3, if_pos hl3]; exact own_nt (Nat.lt_of_lt_of_le (own_P3 b0 b1 b2 b3) (by decide))
        refine k_istore (l' := #[.val (.ref ka), .val (.int (4 : Int32)), .val (.ref u), .val (.ref o), .val (.long df), .second, .val (.ref ub), .val (.ref ob), .val (.ref cn), .val (.int sh), .val (.int (3 : Int32)), .val (.int z44), .val (.int (4 : Int32)), .val (.long (A 3)), .second]) (pc' := 254) C P43 d4_252 rfl rfl ?_
        refine k_aload (pc' := 256) C P43 d4_254 rfl rfl rfl ?_
        refine k_iload (pc' := 258) C P43 d4_256 rfl rfl ?_
        refine k_aloadN (pc' := 259) C P43 d4_258 rfl rfl rfl ?_
        refine k_iload (pc' := 261) C P43 d4_259 rfl rfl ?_
        refine k_laload (J := 3) (v := (.long (A 3))) (pc' := 262) C P43 f43_u d4_261 rfl (by decide) rfl rfl ?_
        refine k_lastore (J := Pn3) (g' := (fun j => Value.long (if j = Pn3 then A 3 else if j = Pn2 then A 2 else if j = Pn1 then A 1 else if j = Pn0 then A 0 else UB j))) (pc' := 263) C P43 f43_ub d4_262 hz44 hP3 (fun j _ => own_wl j Pn3) ge_ub sz_ub rfl ?_
        intro T45 h45 P45 W45 V45
        have f45_u := f43_u.other W45 ne_u_ub
        have f45_o := f43_o.other W45 (KVA.neT f43_o f43_ub nofun)
        have f45_ob := f43_ob.other W45 (KVA.neT f43_ob f43_ub nofun)
        have f45_cn := V43.other W45 (KVA.neT V43 f43_ub nofun)
        refine k_aload (pc' := 265) C P45 d4_263 rfl rfl rfl ?_
        refine k_iload (pc' := 267) C P45 d4_265 rfl rfl ?_
        refine k_aloadN (pc' := 268) C P45 d4_267 rfl rfl rfl ?_
        refine k_iload (pc' := 270) C P45 d4_268 rfl rfl ?_
        refine k_iaload (J := 3) (v := (.int (O 3))) (pc' := 271) C P45 f45_o d4_270 rfl (by decide) rfl rfl ?_
        refine k_iastore (J := Pn3) (g' := (fun j => Value.int (if j = Pn3 then O 3 else if j = Pn2 then O 2 else if j = Pn1 then O 1 else if j = Pn0 then O 0 else OB j))) (pc' := 272) C P45 f45_ob d4_271 hz44 hP3 (fun j _ => own_wi j Pn3) ge_ob sz_ob rfl ?_
        intro T46 h46 P46 W46 V46
        have f46_u := f45_u.other W46 (KVA.neT f45_u f45_ob nofun)
        have f46_o := f45_o.other W46 ne_o_ob
        have f46_ub := V45.other W46 (KVA.neT V45 f45_ob nofun)
        have f46_cn := f45_cn.other W46 (Ne.symm ne_ob_cn)
        refine k_iinc (z := (4 : Int32)) (l' := #[.val (.ref ka), .val (.int (4 : Int32)), .val (.ref u), .val (.ref o), .val (.long df), .second, .val (.ref ub), .val (.ref ob), .val (.ref cn), .val (.int sh), .val (.int (4 : Int32)), .val (.int z44), .val (.int (4 : Int32)), .val (.long (A 3)), .second]) (pc' := 275) C P46 d4_272 rfl rfl rfl rfl ?_
        refine k_goto (pc' := 226) C P46 d4_275 (by decide) (by decide) ?_
        refine k_iload (pc' := 228) C P46 d4_226 rfl rfl ?_
        refine k_iloadN (pc' := 229) C P46 d4_228 rfl rfl ?_
        refine k_icY (pc' := 278) C P46 d4_229 (show ¬ (4 : Int32) < 4 by decide) (by decide) (by decide) ?_
        refine k_aloadN (pc' := 279) C P46 d4_278 rfl rfl rfl ?_
        refine k_astore (l' := #[.val (.ref ka), .val (.int (4 : Int32)), .val (.ref u), .val (.ref o), .val (.long df), .second, .val (.ref ub), .val (.ref ob), .val (.ref cn), .val (.int sh), .val (.ref u), .val (.int z44), .val (.int (4 : Int32)), .val (.long (A 3)), .second]) (pc' := 281) C P46 d4_279 rfl rfl rfl ?_
        refine k_aload (pc' := 283) C P46 d4_281 rfl rfl rfl ?_
        refine k_astoreN (l' := #[.val (.ref ka), .val (.int (4 : Int32)), .val (.ref ub), .val (.ref o), .val (.long df), .second, .val (.ref ub), .val (.ref ob), .val (.ref cn), .val (.int sh), .val (.ref u), .val (.int z44), .val (.int (4 : Int32)), .val (.long (A 3)), .second]) (pc' := 284) C P46 d4_283 rfl rfl rfl ?_
        refine k_aload (pc' := 286) C P46 d4_284 rfl rfl rfl ?_
        refine k_astore (l' := #[.val (.ref ka), .val (.int (4 : Int32)), .val (.ref ub), .val (.ref o), .val (.long df), .second, .val (.ref u), .val (.ref ob), .val (.ref cn), .val (.int sh), .val (.ref u), .val (.int z44), .val (.int (4 : Int32)), .val (.long (A 3)), .second]) (pc' := 288) C P46 d4_286 rfl rfl rfl ?_
        refine k_aloadN (pc' := 289) C P46 d4_288 rfl rfl rfl ?_
        refine k_astore (l' := #[.val (.ref ka), .val (.int (4 : Int32)), .val (.ref ub), .val (.ref o), .val (.long df), .second, .val (.ref u), .val (.ref ob), .val (.ref cn), .val (.int sh), .val (.ref u), .val (.ref o), .val (.int (4 : Int32)), .val (.long (A 3)), .second]) (pc' := 291) C P46 d4_289 rfl rfl rfl ?_
        refine k_aload (pc' := 293) C P46 d4_291 rfl rfl rfl ?_
        refine k_astoreN (l' := #[.val (.ref ka), .val (.int (4 : Int32)), .val (.ref ub), .val (.ref ob), .val (.long df), .second, .val (.ref u), .val (.ref ob), .val (.ref cn), .val (.int sh), .val (.ref u), .val (.ref o), .val (.int (4 : Int32)), .val (.long (A 3)), .second]) (pc' := 294) C P46 d4_293 rfl rfl rfl ?_
        refine k_aload (pc' := 296) C P46 d4_294 rfl rfl rfl ?_
        refine k_astore (l' := #[.val (.ref ka), .val (.int (4 : Int32)), .val (.ref ub), .val (.ref ob), .val (.long df), .second, .val (.ref u), .val (.ref o), .val (.ref cn), .val (.int sh), .val (.ref u), .val (.ref o), .val (.int (4 : Int32)), .val (.long (A 3)), .second]) (pc' := 298) C P46 d4_296 rfl rfl rfl ?_
        refine k_iinc (z := (sh + (8 : Int32))) (l' := #[.val (.ref ka), .val (.int (4 : Int32)), .val (.ref ub), .val (.ref ob), .val (.long df), .second, .val (.ref u), .val (.ref o), .val (.ref cn), .val (.int (sh + (8 : Int32))), .val (.ref u), .val (.ref o), .val (.int (4 : Int32)), .val (.long (A 3)), .second]) (pc' := 301) C P46 d4_298 rfl rfl rfl rfl ?_
        refine k_goto (pc' := 111) C P46 d4_301 (by decide) (by decide) ?_
        have I2 : own_inv U (S + 8) (fun j => if j = Pn3 then A 3 else if j = Pn2 then A 2 else if j = Pn1 then A 1 else if j = Pn0 then A 0 else UB j) (fun j => if j = Pn3 then O 3 else if j = Pn2 then O 2 else if j = Pn1 then O 1 else if j = Pn0 then O 0 else OB j) := own_pass I eb0 eb1 eb2 eb3 eP0 eP1 eP2 eP3 UB OB
        exact ih (S + 8) _ ub ob u o kub kob ku ko _ A _ O _ _ _ _ _ _ _ _ (by omega) (OwnNum.add hsh (show (8 : Int32).toInt = ((8 : Nat) : Int) from rfl) (by omega)) I2 (Or.inr ⟨u, o, _, _, rfl, rfl, rfl, rfl, rfl⟩) (Ne.symm ne_u_ub) (Ne.symm ne_o_ob) ne_ob_cn ne_o_cn ge_ub sz_ub ge_ob sz_ob ge_u sz_u ge_o sz_o P46 f46_ub V46 f46_u f46_o f46_cn
    · intro (hc129 : (k_cmpL ((k_ushrL df sh) &&& (255 : Int64)) (0 : Int64)) = (0 : Int32))
      have I2 : own_inv U (S + 8) A O := own_skip I hdf hsh (by omega) (own_lc0.mp hc129)
      refine k_goto (pc' := 298) C P d4_132 (by decide) (by decide) ?_
      refine k_iinc (z := (sh + (8 : Int32))) (l' := #[.val (.ref ka), .val (.int (4 : Int32)), .val (.ref u), .val (.ref o), .val (.long df), .second, .val (.ref ub), .val (.ref ob), .val (.ref cn), .val (.int (sh + (8 : Int32))), s10, s11, s12, s13, s14]) (pc' := 301) C P d4_298 rfl rfl rfl rfl ?_
      refine k_goto (pc' := 111) C P d4_301 (by decide) (by decide) ?_
      exact ih (S + 8) _ u o ub ob ku ko kub kob A UB O OB CN _ _ _ _ _ _ _ (by omega) (OwnNum.add hsh (show (8 : Int32).toInt = ((8 : Nat) : Int) from rfl) (by omega)) I2 hsl ne_u_ub ne_o_ob ne_o_cn ne_ob_cn ge_u sz_u ge_o sz_o ge_ub sz_ub ge_ob sz_ob P Hu Ho Hub Hob Hcn
theorem pn_4 : plainName "com/example/pactline/pactline/model/Sorting" = true := by first | (simp [plainName, overriddenIn]; done) | decide +kernel
theorem ef_rmAsc (m : MethodId) (x0 : Addr) : entryFrame m #[(.ref x0)] 15 = mkF m 0 #[.val (.ref x0), .unset, .unset, .unset, .unset, .unset, .unset, .unset, .unset, .unset, .unset, .unset, .unset, .unset, .unset] [] := by first | (simp [entryFrame, mkF, argsToLocals, Value.category]; done) | rfl
set_option maxRecDepth 65536 in
set_option maxHeartbeats 40000000 in
theorem rmAsc (l : Launch) (Z : State) (a0 : Array Value) (hw : ∀ d ∈ tables_1, d.before a0 Z = true) (h0 : Heap) (n0 : Nat) (Z0 : n0 ≤ h0.size) (ka : Addr) (kk : ClassId) (K0 K1 K2 K3 : UInt64) (VK : KVA Z h0 ka kk .double 4 (fun j => .double (if j = 0 then K0 else if j = 1 then K1 else if j = 2 then K2 else K3))) (hK0 : Jvm.Free.Fl.NoNaN64 K0) (hK1 : Jvm.Free.Fl.NoNaN64 K1) (hK2 : Jvm.Free.Fl.NoNaN64 K2) (hK3 : Jvm.Free.Fl.NoNaN64 K3) :
    KCt false l (⟨"com/example/pactline/pactline/model/Sorting", "ascending", "([D)[I"⟩ : MethodName) prog_70_method_2_code 15 (some (.array .int)) ({ frames := 1, cells := 5, slots := 273, locals := 40 } : Room) Z n0 h0 #[(.ref ka)] [] (fun v h => ∃ (o : Addr) (ko : ClassId) (A : Nat → Int64) (O : Nat → Int32), v = some (.ref o) ∧ KVA Z h o ko .int 4 (fun j => .int (O j)) ∧ own_inv (fun j => if j = 0 then own_u K0 else if j = 1 then own_u K1 else if j = 2 then own_u K2 else own_u K3 : Nat → Int64) 64 A O) := by
  refine k_enter (tbl := tables_1) (a0 := a0) (Ls := #[.val (.ref ka), .unset, .unset, .unset, .unset, .unset, .unset, .unset, .unset, .unset, .unset, .unset, .unset, .unset, .unset]) (plainFor_of_name pn_4) hw Z0 (fun m => ef_rmAsc m ka) ?_
  intro p e s m below meth c T C P
  refine k_aloadN (pc' := 1) C P d4_0 rfl rfl rfl ?_
  refine k_arrlen (z := (4 : Int32)) (pc' := 2) C P VK d4_1 rfl rfl ?_
  refine k_istoreN (l' := #[.val (.ref ka), .val (.int (4 : Int32)), .unset, .unset, .unset, .unset, .unset, .unset, .unset, .unset, .unset, .unset, .unset, .unset, .unset]) (pc' := 3) C P d4_2 rfl rfl ?_
  refine k_iloadN (pc' := 4) C P d4_3 rfl rfl ?_
  refine k_newp (pc' := 6) (cells' := 1) (slots' := 4) (N := 4) (cap := 4) C P (C.w 16 rfl) d4_4 rfl (by decide) (by decide) rfl rfl (by decide) (by decide) rfl ?_
  intro T47 h47 b47 k47 P47 hs47 ge_b47 sz_b47 E47 V47
  have ne_ka_b47 : ka ≠ b47 := Nat.ne_of_lt (hs47 ▸ VK.lt)
  have f47_ka := VK.ext E47
  refine k_astoreN (l' := #[.val (.ref ka), .val (.int (4 : Int32)), .val (.ref b47), .unset, .unset, .unset, .unset, .unset, .unset, .unset, .unset, .unset, .unset, .unset, .unset]) (pc' := 7) C P47 d4_6 rfl rfl rfl ?_
  refine k_iloadN (pc' := 8) C P47 d4_7 rfl rfl ?_
  refine k_newp (pc' := 10) (cells' := 2) (slots' := 8) (N := 4) (cap := 4) C P47 (C.w 17 rfl) d4_8 rfl (by decide) (by decide) rfl rfl (by decide) (by decide) rfl ?_
  intro T48 h48 b48 k48 P48 hs48 ge_b48 sz_b48 E48 V48
  have ne_ka_b48 : ka ≠ b48 := Nat.ne_of_lt (hs48 ▸ f47_ka.lt)
  have ne_b47_b48 : b47 ≠ b48 := Nat.ne_of_lt (hs48 ▸ V47.lt)
  have f48_ka := f47_ka.ext E48
  have f48_b47 := V47.ext E48
  refine k_astoreN (l' := #[.val (.ref ka), .val (.int (4 : Int32)), .val (.ref b47), .val (.ref b48), .unset, .unset, .unset, .unset, .unset, .unset, .unset, .unset, .unset, .unset, .unset]) (pc' := 11) C P48 d4_10 rfl rfl rfl ?_
  refine k_lconst (z := (0 : Int64)) (pc' := 12) C P48 d4_11 rfl rfl ?_
  refine k_lstore (l' := #[.val (.ref ka), .val (.int (4 : Int32)), .val (.ref b47), .val (.ref b48), .val (.long (0 : Int64)), .second, .unset, .unset, .unset, .unset, .unset, .unset, .unset, .unset, .unset]) (pc' := 14) C P48 d4_12 rfl rfl ?_
  refine k_iconst (z := (0 : Int32)) (pc' := 15) C P48 d4_14 rfl rfl ?_
  refine k_istore (l' := #[.val (.ref ka), .val (.int (4 : Int32)), .val (.ref b47), .val (.ref b48), .val (.long (0 : Int64)), .second, .val (.int (0 : Int32)), .unset, .unset, .unset, .unset, .unset, .unset, .unset, .unset]) (pc' := 17) C P48 d4_15 rfl rfl ?_
  refine k_iload (pc' := 19) C P48 d4_17 rfl rfl ?_
  refine k_iloadN (pc' := 20) C P48 d4_19 rfl rfl ?_
  refine k_icN (pc' := 23) C P48 d4_20 (show (0 : Int32) < (4 : Int32) by decide) rfl ?_
  refine k_aloadN (pc' := 24) C P48 d4_23 rfl rfl rfl ?_
  refine k_iload (pc' := 26) C P48 d4_24 rfl rfl ?_
  refine k_daload (J := 0) (v := (.double K0)) (pc' := 27) C P48 f48_ka d4_26 rfl (by decide) rfl rfl ?_
  refine k_dstore (l' := #[.val (.ref ka), .val (.int (4 : Int32)), .val (.ref b47), .val (.ref b48), .val (.long (0 : Int64)), .second, .val (.int (0 : Int32)), .val (.double K0), .second, .unset, .unset, .unset, .unset, .unset, .unset]) (pc' := 29) C P48 d4_27 rfl rfl ?_
  refine k_dload (pc' := 31) C P48 d4_29 rfl rfl ?_
  refine k_dload (pc' := 33) C P48 d4_31 rfl rfl ?_
  refine k_dcmp (z := (0 : Int32)) (pc' := 34) C P48 d4_33 (dcmpV_self hK0 .l) rfl ?_
  refine k_ifY (pc' := 43) C P48 d4_34 k_01 (by decide) (by decide) ?_
  refine k_dload (pc' := 45) C P48 d4_43 rfl rfl ?_
  refine k_rawL (pc' := 48) (W := 0) C P48 (C.w 18 rfl) (C.w 21 rfl) (C.w 19 rfl) (C.w 20 rfl) d4_45 rfl (Nat.le_of_eq rfl) (by decide) (by decide) rfl ?_
  intro T49 P49
  refine k_lstore (l' := #[.val (.ref ka), .val (.int (4 : Int32)), .val (.ref b47), .val (.ref b48), .val (.long (0 : Int64)), .second, .val (.int (0 : Int32)), .val (.double K0), .second, .val (.long (UInt64.toInt64 K0)), .second, .unset, .unset, .unset, .unset]) (pc' := 50) C P49 d4_48 rfl rfl ?_
  refine k_aloadN (pc' := 51) C P49 d4_50 rfl rfl rfl ?_
  refine k_iload (pc' := 53) C P49 d4_51 rfl rfl ?_
  refine k_lload (pc' := 55) C P49 d4_53 rfl rfl ?_
  refine k_lload (pc' := 57) C P49 d4_55 rfl rfl ?_
  refine k_bipush (z := (63 : Int32)) (pc' := 59) C P49 d4_57 rfl rfl ?_
  refine k_lshr (pc' := 60) C P49 d4_59 rfl ?_
  refine k_ldc2L (pc' := 63) C P49 (C.w 22 rfl) d4_60 rfl ?_
  refine k_lor (pc' := 64) C P49 d4_63 rfl ?_
  refine k_lxor (pc' := 65) C P49 d4_64 rfl ?_
  rw [show ((UInt64.toInt64 K0) ^^^ (((UInt64.toInt64 K0) >>> ((63 : Int32) &&& 63).toInt64) ||| (-9223372036854775808 : Int64))) = own_u K0 from rfl]
  refine k_lastore (J := 0) (g' := (fun j => Value.long (if j = 0 then own_u K0 else 0))) (pc' := 66) C P49 f48_b47 d4_65 rfl (by decide) (fun i hi => by match i, hi with | 0, _ => rfl | 1, _ => rfl | 2, _ => rfl | 3, _ => rfl) ge_b47 (Or.inr sz_b47) rfl ?_
  intro T50 h50 P50 W50 V50
  have f50_ka := f48_ka.other W50 ne_ka_b47
  have f50_b48 := V48.other W50 (Ne.symm ne_b47_b48)
  refine k_aloadN (pc' := 67) C P50 d4_66 rfl rfl rfl ?_
  refine k_iload (pc' := 69) C P50 d4_67 rfl rfl ?_
  refine k_iload (pc' := 71) C P50 d4_69 rfl rfl ?_
  refine k_iastore (J := 0) (g' := (fun j => Value.int (if j = 0 then 0 else 0))) (pc' := 72) C P50 f50_b48 d4_71 rfl (by decide) (fun i hi => by match i, hi with | 0, _ => rfl | 1, _ => rfl | 2, _ => rfl | 3, _ => rfl) ge_b48 (Or.inr sz_b48) rfl ?_
  intro T51 h51 P51 W51 V51
  have f51_ka := f50_ka.other W51 ne_ka_b48
  have f51_b47 := V50.other W51 ne_b47_b48
  refine k_lload (pc' := 74) C P51 d4_72 rfl rfl ?_
  refine k_aloadN (pc' := 75) C P51 d4_74 rfl rfl rfl ?_
  refine k_iload (pc' := 77) C P51 d4_75 rfl rfl ?_
  refine k_laload (J := 0) (v := (.long (own_u K0))) (pc' := 78) C P51 f51_b47 d4_77 rfl (by decide) rfl rfl ?_
  refine k_aloadN (pc' := 79) C P51 d4_78 rfl rfl rfl ?_
  refine k_iconst (z := (0 : Int32)) (pc' := 80) C P51 d4_79 rfl rfl ?_
  refine k_laload (J := 0) (v := (.long (own_u K0))) (pc' := 81) C P51 f51_b47 d4_80 rfl (by decide) rfl rfl ?_
  refine k_lxor (pc' := 82) C P51 d4_81 rfl ?_
  refine k_lor (pc' := 83) C P51 d4_82 rfl ?_
  refine k_lstore (l' := #[.val (.ref ka), .val (.int (4 : Int32)), .val (.ref b47), .val (.ref b48), .val (.long ((0 : Int64) ||| ((own_u K0) ^^^ (own_u K0)))), .second, .val (.int (0 : Int32)), .val (.double K0), .second, .val (.long (UInt64.toInt64 K0)), .second, .unset, .unset, .unset, .unset]) (pc' := 85) C P51 d4_83 rfl rfl ?_
  refine k_iinc (z := (1 : Int32)) (l' := #[.val (.ref ka), .val (.int (4 : Int32)), .val (.ref b47), .val (.ref b48), .val (.long ((0 : Int64) ||| ((own_u K0) ^^^ (own_u K0)))), .second, .val (.int (1 : Int32)), .val (.double K0), .second, .val (.long (UInt64.toInt64 K0)), .second, .unset, .unset, .unset, .unset]) (pc' := 88) C P51 d4_85 rfl rfl rfl rfl ?_
  refine k_goto (pc' := 17) C P51 d4_88 (by decide) (by decide) ?_
  refine k_iload (pc' := 19) C P51 d4_17 rfl rfl ?_
  refine k_iloadN (pc' := 20) C P51 d4_19 rfl rfl ?_
  refine k_icN (pc' := 23) C P51 d4_20 (show (1 : Int32) < (4 : Int32) by decide) rfl ?_
  refine k_aloadN (pc' := 24) C P51 d4_23 rfl rfl rfl ?_
  refine k_iload (pc' := 26) C P51 d4_24 rfl rfl ?_
  refine k_daload (J := 1) (v := (.double K1)) (pc' := 27) C P51 f51_ka d4_26 rfl (by decide) rfl rfl ?_
  refine k_dstore (l' := #[.val (.ref ka), .val (.int (4 : Int32)), .val (.ref b47), .val (.ref b48), .val (.long ((0 : Int64) ||| ((own_u K0) ^^^ (own_u K0)))), .second, .val (.int (1 : Int32)), .val (.double K1), .second, .val (.long (UInt64.toInt64 K0)), .second, .unset, .unset, .unset, .unset]) (pc' := 29) C P51 d4_27 rfl rfl ?_
  refine k_dload (pc' := 31) C P51 d4_29 rfl rfl ?_
  refine k_dload (pc' := 33) C P51 d4_31 rfl rfl ?_
  refine k_dcmp (z := (0 : Int32)) (pc' := 34) C P51 d4_33 (dcmpV_self hK1 .l) rfl ?_
  refine k_ifY (pc' := 43) C P51 d4_34 k_01 (by decide) (by decide) ?_
  refine k_dload (pc' := 45) C P51 d4_43 rfl rfl ?_
  refine k_rawL (pc' := 48) (W := 0) C P51 (C.w 18 rfl) (C.w 21 rfl) (C.w 19 rfl) (C.w 20 rfl) d4_45 rfl (Nat.le_of_eq rfl) (by decide) (by decide) rfl ?_
  intro T52 P52
  refine k_lstore (l' := #[.val (.ref ka), .val (.int (4 : Int32)), .val (.ref b47), .val (.ref b48), .val (.long ((0 : Int64) ||| ((own_u K0) ^^^ (own_u K0)))), .second, .val (.int (1 : Int32)), .val (.double K1), .second, .val (.long (UInt64.toInt64 K1)), .second, .unset, .unset, .unset, .unset]) (pc' := 50) C P52 d4_48 rfl rfl ?_
  refine k_aloadN (pc' := 51) C P52 d4_50 rfl rfl rfl ?_
  refine k_iload (pc' := 53) C P52 d4_51 rfl rfl ?_
  refine k_lload (pc' := 55) C P52 d4_53 rfl rfl ?_
  refine k_lload (pc' := 57) C P52 d4_55 rfl rfl ?_
  refine k_bipush (z := (63 : Int32)) (pc' := 59) C P52 d4_57 rfl rfl ?_
  refine k_lshr (pc' := 60) C P52 d4_59 rfl ?_
  refine k_ldc2L (pc' := 63) C P52 (C.w 22 rfl) d4_60 rfl ?_
  refine k_lor (pc' := 64) C P52 d4_63 rfl ?_
  refine k_lxor (pc' := 65) C P52 d4_64 rfl ?_
  rw [show ((UInt64.toInt64 K1) ^^^ (((UInt64.toInt64 K1) >>> ((63 : Int32) &&& 63).toInt64) ||| (-9223372036854775808 : Int64))) = own_u K1 from rfl]
  refine k_lastore (J := 1) (g' := (fun j => Value.long (if j = 0 then own_u K0 else if j = 1 then own_u K1 else 0))) (pc' := 66) C P52 f51_b47 d4_65 rfl (by decide) (fun i hi => by match i, hi with | 0, _ => rfl | 1, _ => rfl | 2, _ => rfl | 3, _ => rfl) ge_b47 (Or.inr sz_b47) rfl ?_
  intro T53 h53 P53 W53 V53
  have f53_ka := f51_ka.other W53 ne_ka_b47
  have f53_b48 := V51.other W53 (Ne.symm ne_b47_b48)
  refine k_aloadN (pc' := 67) C P53 d4_66 rfl rfl rfl ?_
  refine k_iload (pc' := 69) C P53 d4_67 rfl rfl ?_
  refine k_iload (pc' := 71) C P53 d4_69 rfl rfl ?_
  refine k_iastore (J := 1) (g' := (fun j => Value.int (if j = 0 then 0 else if j = 1 then 1 else 0))) (pc' := 72) C P53 f53_b48 d4_71 rfl (by decide) (fun i hi => by match i, hi with | 0, _ => rfl | 1, _ => rfl | 2, _ => rfl | 3, _ => rfl) ge_b48 (Or.inr sz_b48) rfl ?_
  intro T54 h54 P54 W54 V54
  have f54_ka := f53_ka.other W54 ne_ka_b48
  have f54_b47 := V53.other W54 ne_b47_b48
  refine k_lload (pc' := 74) C P54 d4_72 rfl rfl ?_
  refine k_aloadN (pc' := 75) C P54 d4_74 rfl rfl rfl ?_
  refine k_iload (pc' := 77) C P54 d4_75 rfl rfl ?_
  refine k_laload (J := 1) (v := (.long (own_u K1))) (pc' := 78) C P54 f54_b47 d4_77 rfl (by decide) rfl rfl ?_
  refine k_aloadN (pc' := 79) C P54 d4_78 rfl rfl rfl ?_
  refine k_iconst (z := (0 : Int32)) (pc' := 80) C P54 d4_79 rfl rfl ?_
  refine k_laload (J := 0) (v := (.long (own_u K0))) (pc' := 81) C P54 f54_b47 d4_80 rfl (by decide) rfl rfl ?_
  refine k_lxor (pc' := 82) C P54 d4_81 rfl ?_
  refine k_lor (pc' := 83) C P54 d4_82 rfl ?_
  refine k_lstore (l' := #[.val (.ref ka), .val (.int (4 : Int32)), .val (.ref b47), .val (.ref b48), .val (.long (((0 : Int64) ||| ((own_u K0) ^^^ (own_u K0))) ||| ((own_u K1) ^^^ (own_u K0)))), .second, .val (.int (1 : Int32)), .val (.double K1), .second, .val (.long (UInt64.toInt64 K1)), .second, .unset, .unset, .unset, .unset]) (pc' := 85) C P54 d4_83 rfl rfl ?_
  refine k_iinc (z := (2 : Int32)) (l' := #[.val (.ref ka), .val (.int (4 : Int32)), .val (.ref b47), .val (.ref b48), .val (.long (((0 : Int64) ||| ((own_u K0) ^^^ (own_u K0))) ||| ((own_u K1) ^^^ (own_u K0)))), .second, .val (.int (2 : Int32)), .val (.double K1), .second, .val (.long (UInt64.toInt64 K1)), .second, .unset, .unset, .unset, .unset]) (pc' := 88) C P54 d4_85 rfl rfl rfl rfl ?_
  refine k_goto (pc' := 17) C P54 d4_88 (by decide) (by decide) ?_
  refine k_iload (pc' := 19) C P54 d4_17 rfl rfl ?_
  refine k_iloadN (pc' := 20) C P54 d4_19 rfl rfl ?_
  refine k_icN (pc' := 23) C P54 d4_20 (show (2 : Int32) < (4 : Int32) by decide) rfl ?_
  refine k_aloadN (pc' := 24) C P54 d4_23 rfl rfl rfl ?_
  refine k_iload (pc' := 26) C P54 d4_24 rfl rfl ?_
  refine k_daload (J := 2) (v := (.double K2)) (pc' := 27) C P54 f54_ka d4_26 rfl (by decide) rfl rfl ?_
  refine k_dstore (l' := #[.val (.ref ka), .val (.int (4 : Int32)), .val (.ref b47), .val (.ref b48), .val (.long (((0 : Int64) ||| ((own_u K0) ^^^ (own_u K0))) ||| ((own_u K1) ^^^ (own_u K0)))), .second, .val (.int (2 : Int32)), .val (.double K2), .second, .val (.long (UInt64.toInt64 K1)), .second, .unset, .unset, .unset, .unset]) (pc' := 29) C P54 d4_27 rfl rfl ?_
  refine k_dload (pc' := 31) C P54 d4_29 rfl rfl ?_
  refine k_dload (pc' := 33) C P54 d4_31 rfl rfl ?_
  refine k_dcmp (z := (0 : Int32)) (pc' := 34) C P54 d4_33 (dcmpV_self hK2 .l) rfl ?_
  refine k_ifY (pc' := 43) C P54 d4_34 k_01 (by decide) (by decide) ?_
  refine k_dload (pc' := 45) C P54 d4_43 rfl rfl ?_
  refine k_rawL (pc' := 48) (W := 0) C P54 (C.w 18 rfl) (C.w 21 rfl) (C.w 19 rfl) (C.w 20 rfl) d4_45 rfl (Nat.le_of_eq rfl) (by decide) (by decide) rfl ?_
  intro T55 P55
  refine k_lstore (l' := #[.val (.ref ka), .val (.int (4 : Int32)), .val (.ref b47), .val (.ref b48), .val (.long (((0 : Int64) ||| ((own_u K0) ^^^ (own_u K0))) ||| ((own_u K1) ^^^ (own_u K0)))), .second, .val (.int (2 : Int32)), .val (.double K2), .second, .val (.long (UInt64.toInt64 K2)), .second, .unset, .unset, .unset, .unset]) (pc' := 50) C P55 d4_48 rfl rfl ?_
  refine k_aloadN (pc' := 51) C P55 d4_50 rfl rfl rfl ?_
  refine k_iload (pc' := 53) C P55 d4_51 rfl rfl ?_
  refine k_lload (pc' := 55) C P55 d4_53 rfl rfl ?_
  refine k_lload (pc' := 57) C P55 d4_55 rfl rfl ?_
  refine k_bipush (z := (63 : Int32)) (pc' := 59) C P55 d4_57 rfl rfl ?_
  refine k_lshr (pc' := 60) C P55 d4_59 rfl ?_
  refine k_ldc2L (pc' := 63) C P55 (C.w 22 rfl) d4_60 rfl ?_
  refine k_lor (pc' := 64) C P55 d4_63 rfl ?_
  refine k_lxor (pc' := 65) C P55 d4_64 rfl ?_
  rw [show ((UInt64.toInt64 K2) ^^^ (((UInt64.toInt64 K2) >>> ((63 : Int32) &&& 63).toInt64) ||| (-9223372036854775808 : Int64))) = own_u K2 from rfl]
  refine k_lastore (J := 2) (g' := (fun j => Value.long (if j = 0 then own_u K0 else if j = 1 then own_u K1 else if j = 2 then own_u K2 else 0))) (pc' := 66) C P55 f54_b47 d4_65 rfl (by decide) (fun i hi => by match i, hi with | 0, _ => rfl | 1, _ => rfl | 2, _ => rfl | 3, _ => rfl) ge_b47 (Or.inr sz_b47) rfl ?_
  intro T56 h56 P56 W56 V56
  have f56_ka := f54_ka.other W56 ne_ka_b47
  have f56_b48 := V54.other W56 (Ne.symm ne_b47_b48)
  refine k_aloadN (pc' := 67) C P56 d4_66 rfl rfl rfl ?_
  refine k_iload (pc' := 69) C P56 d4_67 rfl rfl ?_
  refine k_iload (pc' := 71) C P56 d4_69 rfl rfl ?_
  refine k_iastore (J := 2) (g' := (fun j => Value.int (if j = 0 then 0 else if j = 1 then 1 else if j = 2 then 2 else 0))) (pc' := 72) C P56 f56_b48 d4_71 rfl (by decide) (fun i hi => by match i, hi with | 0, _ => rfl | 1, _ => rfl | 2, _ => rfl | 3, _ => rfl) ge_b48 (Or.inr sz_b48) rfl ?_
  intro T57 h57 P57 W57 V57
  have f57_ka := f56_ka.other W57 ne_ka_b48
  have f57_b47 := V56.other W57 ne_b47_b48
  refine k_lload (pc' := 74) C P57 d4_72 rfl rfl ?_
  refine k_aloadN (pc' := 75) C P57 d4_74 rfl rfl rfl ?_
  refine k_iload (pc' := 77) C P57 d4_75 rfl rfl ?_
  refine k_laload (J := 2) (v := (.long (own_u K2))) (pc' := 78) C P57 f57_b47 d4_77 rfl (by decide) rfl rfl ?_
  refine k_aloadN (pc' := 79) C P57 d4_78 rfl rfl rfl ?_
  refine k_iconst (z := (0 : Int32)) (pc' := 80) C P57 d4_79 rfl rfl ?_
  refine k_laload (J := 0) (v := (.long (own_u K0))) (pc' := 81) C P57 f57_b47 d4_80 rfl (by decide) rfl rfl ?_
  refine k_lxor (pc' := 82) C P57 d4_81 rfl ?_
  refine k_lor (pc' := 83) C P57 d4_82 rfl ?_
  refine k_lstore (l' := #[.val (.ref ka), .val (.int (4 : Int32)), .val (.ref b47), .val (.ref b48), .val (.long ((((0 : Int64) ||| ((own_u K0) ^^^ (own_u K0))) ||| ((own_u K1) ^^^ (own_u K0))) ||| ((own_u K2) ^^^ (own_u K0)))), .second, .val (.int (2 : Int32)), .val (.double K2), .second, .val (.long (UInt64.toInt64 K2)), .second, .unset, .unset, .unset, .unset]) (pc' := 85) C P57 d4_83 rfl rfl ?_
  refine k_iinc (z := (3 : Int32)) (l' := #[.val (.ref ka), .val (.int (4 : Int32)), .val (.ref b47), .val (.ref b48), .val (.long ((((0 : Int64) ||| ((own_u K0) ^^^ (own_u K0))) ||| ((own_u K1) ^^^ (own_u K0))) ||| ((own_u K2) ^^^ (own_u K0)))), .second, .val (.int (3 : Int32)), .val (.double K2), .second, .val (.long (UInt64.toInt64 K2)), .second, .unset, .unset, .unset, .unset]) (pc' := 88) C P57 d4_85 rfl rfl rfl rfl ?_
  refine k_goto (pc' := 17) C P57 d4_88 (by decide) (by decide) ?_
  refine k_iload (pc' := 19) C P57 d4_17 rfl rfl ?_
  refine k_iloadN (pc' := 20) C P57 d4_19 rfl rfl ?_
  refine k_icN (pc' := 23) C P57 d4_20 (show (3 : Int32) < (4 : Int32) by decide) rfl ?_
  refine k_aloadN (pc' := 24) C P57 d4_23 rfl rfl rfl ?_
  refine k_iload (pc' := 26) C P57 d4_24 rfl rfl ?_
  refine k_daload (J := 3) (v := (.double K3)) (pc' := 27) C P57 f57_ka d4_26 rfl (by decide) rfl rfl ?_
  refine k_dstore (l' := #[.val (.ref ka), .val (.int (4 : Int32)), .val (.ref b47), .val (.ref b48), .val (.long ((((0 : Int64) ||| ((own_u K0) ^^^ (own_u K0))) ||| ((own_u K1) ^^^ (own_u K0))) ||| ((own_u K2) ^^^ (own_u K0)))), .second, .val (.int (3 : Int32)), .val (.double K3), .second, .val (.long (UInt64.toInt64 K2)), .second, .unset, .unset, .unset, .unset]) (pc' := 29) C P57 d4_27 rfl rfl ?_
  refine k_dload (pc' := 31) C P57 d4_29 rfl rfl ?_
  refine k_dload (pc' := 33) C P57 d4_31 rfl rfl ?_
  refine k_dcmp (z := (0 : Int32)) (pc' := 34) C P57 d4_33 (dcmpV_self hK3 .l) rfl ?_
  refine k_ifY (pc' := 43) C P57 d4_34 k_01 (by decide) (by decide) ?_
  refine k_dload (pc' := 45) C P57 d4_43 rfl rfl ?_
  refine k_rawL (pc' := 48) (W := 0) C P57 (C.w 18 rfl) (C.w 21 rfl) (C.w 19 rfl) (C.w 20 rfl) d4_45 rfl (Nat.le_of_eq rfl) (by decide) (by decide) rfl ?_
  intro T58 P58
  refine k_lstore (l' := #[.val (.ref ka), .val (.int (4 : Int32)), .val (.ref b47), .val (.ref b48), .val (.long ((((0 : Int64) ||| ((own_u K0) ^^^ (own_u K0))) ||| ((own_u K1) ^^^ (own_u K0))) ||| ((own_u K2) ^^^ (own_u K0)))), .second, .val (.int (3 : Int32)), .val (.double K3), .second, .val (.long (UInt64.toInt64 K3)), .second, .unset, .unset, .unset, .unset]) (pc' := 50) C P58 d4_48 rfl rfl ?_
  refine k_aloadN (pc' := 51) C P58 d4_50 rfl rfl rfl ?_
  refine k_iload (pc' := 53) C P58 d4_51 rfl rfl ?_
  refine k_lload (pc' := 55) C P58 d4_53 rfl rfl ?_
  refine k_lload (pc' := 57) C P58 d4_55 rfl rfl ?_
  refine k_bipush (z := (63 : Int32)) (pc' := 59) C P58 d4_57 rfl rfl ?_
  refine k_lshr (pc' := 60) C P58 d4_59 rfl ?_
  refine k_ldc2L (pc' := 63) C P58 (C.w 22 rfl) d4_60 rfl ?_
  refine k_lor (pc' := 64) C P58 d4_63 rfl ?_
  refine k_lxor (pc' := 65) C P58 d4_64 rfl ?_
  rw [show ((UInt64.toInt64 K3) ^^^ (((UInt64.toInt64 K3) >>> ((63 : Int32) &&& 63).toInt64) ||| (-9223372036854775808 : Int64))) = own_u K3 from rfl]
  refine k_lastore (J := 3) (g' := (fun j => Value.long (if j = 0 then own_u K0 else if j = 1 then own_u K1 else if j = 2 then own_u K2 else own_u K3))) (pc' := 66) C P58 f57_b47 d4_65 rfl (by decide) (fun i hi => by match i, hi with | 0, _ => rfl | 1, _ => rfl | 2, _ => rfl | 3, _ => rfl) ge_b47 (Or.inr sz_b47) rfl ?_
  intro T59 h59 P59 W59 V59
  have f59_ka := f57_ka.other W59 ne_ka_b47
  have f59_b48 := V57.other W59 (Ne.symm ne_b47_b48)
  refine k_aloadN (pc' := 67) C P59 d4_66 rfl rfl rfl ?_
  refine k_iload (pc' := 69) C P59 d4_67 rfl rfl ?_
  refine k_iload (pc' := 71) C P59 d4_69 rfl rfl ?_
  refine k_iastore (J := 3) (g' := (fun j => Value.int (if j = 0 then 0 else if j = 1 then 1 else if j = 2 then 2 else 3))) (pc' := 72) C P59 f59_b48 d4_71 rfl (by decide) (fun i hi => by match i, hi with | 0, _ => rfl | 1, _ => rfl | 2, _ => rfl | 3, _ => rfl) ge_b48 (Or.inr sz_b48) rfl ?_
  intro T60 h60 P60 W60 V60
  have f60_ka := f59_ka.other W60 ne_ka_b48
  have f60_b47 := V59.other W60 ne_b47_b48
  refine k_lload (pc' := 74) C P60 d4_72 rfl rfl ?_
  refine k_aloadN (pc' := 75) C P60 d4_74 rfl rfl rfl ?_
  refine k_iload (pc' := 77) C P60 d4_75 rfl rfl ?_
  refine k_laload (J := 3) (v := (.long (own_u K3))) (pc' := 78) C P60 f60_b47 d4_77 rfl (by decide) rfl rfl ?_
  refine k_aloadN (pc' := 79) C P60 d4_78 rfl rfl rfl ?_
  refine k_iconst (z := (0 : Int32)) (pc' := 80) C P60 d4_79 rfl rfl ?_
  refine k_laload (J := 0) (v := (.long (own_u K0))) (pc' := 81) C P60 f60_b47 d4_80 rfl (by decide) rfl rfl ?_
  refine k_lxor (pc' := 82) C P60 d4_81 rfl ?_
  refine k_lor (pc' := 83) C P60 d4_82 rfl ?_
  refine k_lstore (l' := #[.val (.ref ka), .val (.int (4 : Int32)), .val (.ref b47), .val (.ref b48), .val (.long (((((0 : Int64) ||| ((own_u K0) ^^^ (own_u K0))) ||| ((own_u K1) ^^^ (own_u K0))) ||| ((own_u K2) ^^^ (own_u K0))) ||| ((own_u K3) ^^^ (own_u K0)))), .second, .val (.int (3 : Int32)), .val (.double K3), .second, .val (.long (UInt64.toInt64 K3)), .second, .unset, .unset, .unset, .unset]) (pc' := 85) C P60 d4_83 rfl rfl ?_
  refine k_iinc (z := (4 : Int32)) (l' := #[.val (.ref ka), .val (.int (4 : Int32)), .val (.ref b47), .val (.ref b48), .val (.long (((((0 : Int64) ||| ((own_u K0) ^^^ (own_u K0))) ||| ((own_u K1) ^^^ (own_u K0))) ||| ((own_u K2) ^^^ (own_u K0))) ||| ((own_u K3) ^^^ (own_u K0)))), .second, .val (.int (4 : Int32)), .val (.double K3), .second, .val (.long (UInt64.toInt64 K3)), .second, .unset, .unset, .unset, .unset]) (pc' := 88) C P60 d4_85 rfl rfl rfl rfl ?_
  refine k_goto (pc' := 17) C P60 d4_88 (by decide) (by decide) ?_
  refine k_iload (pc' := 19) C P60 d4_17 rfl rfl ?_
  refine k_iloadN (pc' := 20) C P60 d4_19 rfl rfl ?_
  refine k_icY (pc' := 91) C P60 d4_20 (show ¬ (4 : Int32) < 4 by decide) (by decide) (by decide) ?_
  refine k_iloadN (pc' := 92) C P60 d4_91 rfl rfl ?_
  refine k_newp (pc' := 94) (cells' := 3) (slots' := 12) (N := 4) (cap := 4) C P60 (C.w 16 rfl) d4_92 rfl (by decide) (by decide) rfl rfl (by decide) (by decide) rfl ?_
  intro T61 h61 b61 k61 P61 hs61 ge_b61 sz_b61 E61 V61
  have ne_ka_b61 : ka ≠ b61 := Nat.ne_of_lt (hs61 ▸ f60_ka.lt)
  have ne_b47_b61 : b47 ≠ b61 := Nat.ne_of_lt (hs61 ▸ f60_b47.lt)
  have ne_b48_b61 : b48 ≠ b61 := Nat.ne_of_lt (hs61 ▸ V60.lt)
  have f61_ka := f60_ka.ext E61
  have f61_b47 := f60_b47.ext E61
  have f61_b48 := V60.ext E61
  refine k_astore (l' := #[.val (.ref ka), .val (.int (4 : Int32)), .val (.ref b47), .val (.ref b48), .val (.long (((((0 : Int64) ||| ((own_u K0) ^^^ (own_u K0))) ||| ((own_u K1) ^^^ (own_u K0))) ||| ((own_u K2) ^^^ (own_u K0))) ||| ((own_u K3) ^^^ (own_u K0)))), .second, .val (.ref b61), .val (.double K3), .second, .val (.long (UInt64.toInt64 K3)), .second, .unset, .unset, .unset, .unset]) (pc' := 96) C P61 d4_94 rfl rfl rfl ?_
  refine k_iloadN (pc' := 97) C P61 d4_96 rfl rfl ?_
  refine k_newp (pc' := 99) (cells' := 4) (slots' := 16) (N := 4) (cap := 4) C P61 (C.w 17 rfl) d4_97 rfl (by decide) (by decide) rfl rfl (by decide) (by decide) rfl ?_
  intro T62 h62 b62 k62 P62 hs62 ge_b62 sz_b62 E62 V62
  have ne_ka_b62 : ka ≠ b62 := Nat.ne_of_lt (hs62 ▸ f61_ka.lt)
  have ne_b47_b62 : b47 ≠ b62 := Nat.ne_of_lt (hs62 ▸ f61_b47.lt)
  have ne_b48_b62 : b48 ≠ b62 := Nat.ne_of_lt (hs62 ▸ f61_b48.lt)
  have ne_b61_b62 : b61 ≠ b62 := Nat.ne_of_lt (hs62 ▸ V61.lt)
  have f62_ka := f61_ka.ext E62
  have f62_b47 := f61_b47.ext E62
  have f62_b48 := f61_b48.ext E62
  have f62_b61 := V61.ext E62
  refine k_astore (l' := #[.val (.ref ka), .val (.int (4 : Int32)), .val (.ref b47), .val (.ref b48), .val (.long (((((0 : Int64) ||| ((own_u K0) ^^^ (own_u K0))) ||| ((own_u K1) ^^^ (own_u K0))) ||| ((own_u K2) ^^^ (own_u K0))) ||| ((own_u K3) ^^^ (own_u K0)))), .second, .val (.ref b61), .val (.ref b62), .unset, .val (.long (UInt64.toInt64 K3)), .second, .unset, .unset, .unset, .unset]) (pc' := 101) C P62 d4_99 rfl rfl rfl ?_
  refine k_sipush (z := (257 : Int32)) (pc' := 104) C P62 d4_101 rfl rfl ?_
  refine k_newp (pc' := 106) (cells' := 5) (slots' := 273) (N := 257) (cap := 257) C P62 (C.w 17 rfl) d4_104 rfl (by decide) (by decide) rfl rfl (by decide) (by decide) rfl ?_
  intro T63 h63 b63 k63 P63 hs63 ge_b63 sz_b63 E63 V63
  have ne_ka_b63 : ka ≠ b63 := Nat.ne_of_lt (hs63 ▸ f62_ka.lt)
  have ne_b47_b63 : b47 ≠ b63 := Nat.ne_of_lt (hs63 ▸ f62_b47.lt)
  have ne_b48_b63 : b48 ≠ b63 := Nat.ne_of_lt (hs63 ▸ f62_b48.lt)
  have ne_b61_b63 : b61 ≠ b63 := Nat.ne_of_lt (hs63 ▸ f62_b61.lt)
  have ne_b62_b63 : b62 ≠ b63 := Nat.ne_of_lt (hs63 ▸ V62.lt)
  have f63_ka := f62_ka.ext E63
  have f63_b47 := f62_b47.ext E63
  have f63_b48 := f62_b48.ext E63
  have f63_b61 := f62_b61.ext E63
  have f63_b62 := V62.ext E63
  refine k_astore (l' := #[.val (.ref ka), .val (.int (4 : Int32)), .val (.ref b47), .val (.ref b48), .val (.long (((((0 : Int64) ||| ((own_u K0) ^^^ (own_u K0))) ||| ((own_u K1) ^^^ (own_u K0))) ||| ((own_u K2) ^^^ (own_u K0))) ||| ((own_u K3) ^^^ (own_u K0)))), .second, .val (.ref b61), .val (.ref b62), .val (.ref b63), .val (.long (UInt64.toInt64 K3)), .second, .unset, .unset, .unset, .unset]) (pc' := 108) C P63 d4_106 rfl rfl rfl ?_
  refine k_iconst (z := (0 : Int32)) (pc' := 109) C P63 d4_108 rfl rfl ?_
  refine k_istore (l' := #[.val (.ref ka), .val (.int (4 : Int32)), .val (.ref b47), .val (.ref b48), .val (.long (((((0 : Int64) ||| ((own_u K0) ^^^ (own_u K0))) ||| ((own_u K1) ^^^ (own_u K0))) ||| ((own_u K2) ^^^ (own_u K0))) ||| ((own_u K3) ^^^ (own_u K0)))), .second, .val (.ref b61), .val (.ref b62), .val (.ref b63), .val (.int (0 : Int32)), .unset, .unset, .unset, .unset, .unset]) (pc' := 111) C P63 d4_109 rfl rfl ?_
  exact lp_out (by decide) (by decide) (by decide) (by decide) (by decide) (by decide) C hw ka b63 _ (fun j => if j = 0 then own_u K0 else if j = 1 then own_u K1 else if j = 2 then own_u K2 else own_u K3 : Nat → Int64) _ rfl ge_b63 (Or.inr sz_b63) (fun o ko A O h I V => ⟨o, ko, A, O, rfl, V, I⟩) 8 0 0 b47 b48 b61 b62 _ _ _ _ (fun j => if j = 0 then own_u K0 else if j = 1 then own_u K1 else if j = 2 then own_u K2 else own_u K3 : Nat → Int64) (fun _ => 0) (fun j => if j = 0 then 0 else if j = 1 then 1 else if j = 2 then 2 else 3 : Nat → Int32) (fun _ => 0) _ _ _ _ _ _ _ _ (by omega) rfl own_inv0 (Or.inl ⟨rfl, rfl, rfl, rfl, rfl⟩) ne_b47_b61 ne_b48_b62 ne_b48_b63 ne_b62_b63 ge_b47 (Or.inr sz_b47) ge_b48 (Or.inr sz_b48) ge_b61 (Or.inr sz_b61) ge_b62 (Or.inr sz_b62) P63 f63_b47 f63_b48 f63_b61 f63_b62 V63
theorem pn_0 : plainName "com/example/pactline/pactline/model/SortingAscendingPinLaw" = true := by first | (simp [plainName, overriddenIn]; done) | decide +kernel
theorem ef_rm0 (m : MethodId) (x0 : Int64) (x1 : Int64) (x2 : Int64) (x3 : Int64) (x4 : Int32) : entryFrame m #[(.long x0), (.long x1), (.long x2), (.long x3), (.int x4)] maxLocals = mkF m 0 #[.val (.long x0), .second, .val (.long x1), .second, .val (.long x2), .second, .val (.long x3), .second, .val (.int x4), .unset, .unset, .unset, .unset, .unset, .unset, .unset, .unset, .unset, .unset, .unset, .unset, .unset, .unset, .unset, .unset, .unset, .unset, .unset, .unset, .unset, .unset, .unset, .unset, .unset, .unset] [] := by first | (simp [entryFrame, mkF, argsToLocals, Value.category, maxLocals]; done) | rfl
set_option maxRecDepth 65536 in
set_option maxHeartbeats 40000000 in
theorem rm0 (l : Launch) (Z : State) (a0 : Array Value) (hw : ∀ d ∈ tables_1, d.before a0 Z = true) (h0 : Heap) (n0 : Nat) (Z0 : n0 ≤ h0.size) (p0 p1 p2 p3 : Int64) (p4 : Int32) :
    KCt false l x code maxLocals ret room_1 Z n0 h0 #[(.long p0), (.long p1), (.long p2), (.long p3), (.int p4)] [] (fun v h => v = some (.int 1)) := by
  refine k_enter (tbl := tables_1) (a0 := a0) (Ls := #[.val (.long p0), .second, .val (.long p1), .second, .val (.long p2), .second, .val (.long p3), .second, .val (.int p4), .unset, .unset, .unset, .unset, .unset, .unset, .unset, .unset, .unset, .unset, .unset, .unset, .unset, .unset, .unset, .unset, .unset, .unset, .unset, .unset, .unset, .unset, .unset, .unset, .unset, .unset]) (plainFor_of_name pn_0) hw Z0 (fun m => ef_rm0 m p0 p1 p2 p3 p4) ?_
  intro p e s m below meth c T C P
  refine k_lloadN (pc' := 1) C P at_0 rfl rfl ?_
  refine k_bipush (z := (11 : Int32)) (pc' := 3) C P at_1 rfl rfl ?_
  refine k_lshr (pc' := 4) C P at_3 rfl ?_
  obtain ⟨y0, e_y0⟩ : ∃ z, z = (p0 >>> ((11 : Int32) &&& 63).toInt64) := ⟨_, rfl⟩
  rw [← e_y0]
  have hy0 : own_sm y0 := by rw [e_y0]; exact own_shr11 p0
  clear e_y0
  refine k_lstore (l' := #[.val (.long p0), .second, .val (.long p1), .second, .val (.long p2), .second, .val (.long p3), .second, .val (.int p4), .val (.long y0), .second, .unset, .unset, .unset, .unset, .unset, .unset, .unset, .unset, .unset, .unset, .unset, .unset, .unset, .unset, .unset, .unset, .unset, .unset, .unset, .unset, .unset, .unset, .unset, .unset]) (pc' := 6) C P at_4 rfl rfl ?_
  refine k_lloadN (pc' := 7) C P at_6 rfl rfl ?_
  refine k_bipush (z := (11 : Int32)) (pc' := 9) C P at_7 rfl rfl ?_
  refine k_lshr (pc' := 10) C P at_9 rfl ?_
  obtain ⟨y1, e_y1⟩ : ∃ z, z = (p1 >>> ((11 : Int32) &&& 63).toInt64) := ⟨_, rfl⟩
  rw [← e_y1]
  have hy1 : own_sm y1 := by rw [e_y1]; exact own_shr11 p1
  clear e_y1
  refine k_lstore (l' := #[.val (.long p0), .second, .val (.long p1), .second, .val (.long p2), .second, .val (.long p3), .second, .val (.int p4), .val (.long y0), .second, .val (.long y1), .second, .unset, .unset, .unset, .unset, .unset, .unset, .unset, .unset, .unset, .unset, .unset, .unset, .unset, .unset, .unset, .unset, .unset, .unset, .unset, .unset, .unset, .unset]) (pc' := 12) C P at_10 rfl rfl ?_
  refine k_lload (pc' := 14) C P at_12 rfl rfl ?_
  refine k_bipush (z := (11 : Int32)) (pc' := 16) C P at_14 rfl rfl ?_
  refine k_lshr (pc' := 17) C P at_16 rfl ?_
  obtain ⟨y2, e_y2⟩ : ∃ z, z = (p2 >>> ((11 : Int32) &&& 63).toInt64) := ⟨_, rfl⟩
  rw [← e_y2]
  have hy2 : own_sm y2 := by rw [e_y2]; exact own_shr11 p2
  clear e_y2
  refine k_lstore (l' := #[.val (.long p0), .second, .val (.long p1), .second, .val (.long p2), .second, .val (.long p3), .second, .val (.int p4), .val (.long y0), .second, .val (.long y1), .second, .val (.long y2), .second, .unset, .unset, .unset, .unset, .unset, .unset, .unset, .unset, .unset, .unset, .unset, .unset, .unset, .unset, .unset, .unset, .unset, .unset, .unset, .unset]) (pc' := 19) C P at_17 rfl rfl ?_
  refine k_lload (pc' := 21) C P at_19 rfl rfl ?_
  refine k_bipush (z := (11 : Int32)) (pc' := 23) C P at_21 rfl rfl ?_
  refine k_lshr (pc' := 24) C P at_23 rfl ?_
  obtain ⟨y3, e_y3⟩ : ∃ z, z = (p3 >>> ((11 : Int32) &&& 63).toInt64) := ⟨_, rfl⟩
  rw [← e_y3]
  have hy3 : own_sm y3 := by rw [e_y3]; exact own_shr11 p3
  clear e_y3
  refine k_lstore (l' := #[.val (.long p0), .second, .val (.long p1), .second, .val (.long p2), .second, .val (.long p3), .second, .val (.int p4), .val (.long y0), .second, .val (.long y1), .second, .val (.long y2), .second, .val (.long y3), .second, .unset, .unset, .unset, .unset, .unset, .unset, .unset, .unset, .unset, .unset, .unset, .unset, .unset, .unset, .unset, .unset, .unset, .unset]) (pc' := 26) C P at_24 rfl rfl ?_
  refine k_iload (pc' := 28) C P at_26 rfl rfl ?_
  refine k_iconst (z := (1 : Int32)) (pc' := 29) C P at_28 rfl rfl ?_
  refine k_iand (pc' := 30) C P at_29 rfl ?_
  refine k_join (pc' := 45) (Ls' := #[.val (.long p0), .second, .val (.long p1), .second, .val (.long p2), .second, .val (.long p3), .second, .val (.int p4), .val (.long y0), .second, .val (.long y1), .second, .val (.long y2), .second, .val (.long y3), .second, .unset, .unset, .unset, .unset, .unset, .unset, .unset, .unset, .unset, .unset, .unset, .unset, .unset, .unset, .unset, .unset, .unset, .unset]) (st' := [(.int (if ¬ (p4 &&& (1 : Int32)) = 0 ∧ y0 = 0 then (1 : Int32) else 0))]) P ?_ ?_
  · intro hj64
    refine k_ifB (pcY := 44) (pcN := 33) C P at_30 (by decide) (by decide) rfl ?_ ?_
    · intro (hc30 : (p4 &&& (1 : Int32)) = (0 : Int32))
      refine k_iconst (z := (0 : Int32)) (pc' := 45) C P at_44 rfl rfl ?_
      exact (hj64 _ P).cast rfl (by rw [if_neg (fun q => q.1 hc30)])
    · intro (hc30 : ¬ (p4 &&& (1 : Int32)) = (0 : Int32))
      refine k_lload (pc' := 35) C P at_33 rfl rfl ?_
      refine k_lconst (z := (0 : Int64)) (pc' := 36) C P at_35 rfl rfl ?_
      refine k_lcmp (pc' := 37) C P at_36 rfl ?_
      refine k_ifB (pcY := 44) (pcN := 40) C P at_37 (by decide) (by decide) rfl ?_ ?_
      · intro (hc37 : ¬ (k_cmpL y0 (0 : Int64)) = (0 : Int32))
        refine k_iconst (z := (0 : Int32)) (pc' := 45) C P at_44 rfl rfl ?_
        exact (hj64 _ P).cast rfl (by rw [if_neg (fun q => hc37 (own_lc0.mpr q.2))])
      · intro (hc37 : (k_cmpL y0 (0 : Int64)) = (0 : Int32))
        refine k_iconst (z := (1 : Int32)) (pc' := 41) C P at_40 rfl rfl ?_
        refine k_goto (pc' := 45) C P at_41 (by decide) (by decide) ?_
        exact (hj64 _ P).cast rfl (by rw [if_pos ⟨hc30, own_lc0.mp hc37⟩])
  intro T64 P64
  obtain ⟨m0, e_m0⟩ : ∃ z, z = (if ¬ (p4 &&& (1 : Int32)) = 0 ∧ y0 = 0 then (1 : Int32) else 0) := ⟨_, rfl⟩
  rw [← e_m0]
  have h_m0 : own_zf m0 y0 := by rw [e_m0]; exact own_zfi _ _
  clear e_m0
  refine k_istore (l' := #[.val (.long p0), .second, .val (.long p1), .second, .val (.long p2), .second, .val (.long p3), .second, .val (.int p4), .val (.long y0), .second, .val (.long y1), .second, .val (.long y2), .second, .val (.long y3), .second, .val (.int m0), .unset, .unset, .unset, .unset, .unset, .unset, .unset, .unset, .unset, .unset, .unset, .unset, .unset, .unset, .unset, .unset, .unset]) (pc' := 47) C P64 at_45 rfl rfl ?_
  refine k_iload (pc' := 49) C P64 at_47 rfl rfl ?_
  refine k_iconst (z := (2 : Int32)) (pc' := 50) C P64 at_49 rfl rfl ?_
  refine k_iand (pc' := 51) C P64 at_50 rfl ?_
  refine k_join (pc' := 66) (Ls' := #[.val (.long p0), .second, .val (.long p1), .second, .val (.long p2), .second, .val (.long p3), .second, .val (.int p4), .val (.long y0), .second, .val (.long y1), .second, .val (.long y2), .second, .val (.long y3), .second, .val (.int m0), .unset, .unset, .unset, .unset, .unset, .unset, .unset, .unset, .unset, .unset, .unset, .unset, .unset, .unset, .unset, .unset, .unset]) (st' := [(.int (if ¬ (p4 &&& (2 : Int32)) = 0 ∧ y1 = 0 then (1 : Int32) else 0))]) P64 ?_ ?_
  · intro hj65
    refine k_ifB (pcY := 65) (pcN := 54) C P64 at_51 (by decide) (by decide) rfl ?_ ?_
    · intro (hc51 : (p4 &&& (2 : Int32)) = (0 : Int32))
      refine k_iconst (z := (0 : Int32)) (pc' := 66) C P64 at_65 rfl rfl ?_
      exact (hj65 _ P64).cast rfl (by rw [if_neg (fun q => q.1 hc51)])
    · intro (hc51 : ¬ (p4 &&& (2 : Int32)) = (0 : Int32))
      refine k_lload (pc' := 56) C P64 at_54 rfl rfl ?_
      refine k_lconst (z := (0 : Int64)) (pc' := 57) C P64 at_56 rfl rfl ?_
      refine k_lcmp (pc' := 58) C P64 at_57 rfl ?_
      refine k_ifB (pcY := 65) (pcN := 61) C P64 at_58 (by decide) (by decide) rfl ?_ ?_
      · intro (hc58 : ¬ (k_cmpL y1 (0 : Int64)) = (0 : Int32))
        refine k_iconst (z := (0 : Int32)) (pc' := 66) C P64 at_65 rfl rfl ?_
        exact (hj65 _ P64).cast rfl (by rw [if_neg (fun q => hc58 (own_lc0.mpr q.2))])
      · intro (hc58 : (k_cmpL y1 (0 : Int64)) = (0 : Int32))
        refine k_iconst (z := (1 : Int32)) (pc' := 62) C P64 at_61 rfl rfl ?_
        refine k_goto (pc' := 66) C P64 at_62 (by decide) (by decide) ?_
        exact (hj65 _ P64).cast rfl (by rw [if_pos ⟨hc51, own_lc0.mp hc58⟩])
  intro T65 P65
  obtain ⟨m1, e_m1⟩ : ∃ z, z = (if ¬ (p4 &&& (2 : Int32)) = 0 ∧ y1 = 0 then (1 : Int32) else 0) := ⟨_, rfl⟩
  rw [← e_m1]
  have h_m1 : own_zf m1 y1 := by rw [e_m1]; exact own_zfi _ _
  clear e_m1
  refine k_istore (l' := #[.val (.long p0), .second, .val (.long p1), .second, .val (.long p2), .second, .val (.long p3), .second, .val (.int p4), .val (.long y0), .second, .val (.long y1), .second, .val (.long y2), .second, .val (.long y3), .second, .val (.int m0), .val (.int m1), .unset, .unset, .unset, .unset, .unset, .unset, .unset, .unset, .unset, .unset, .unset, .unset, .unset, .unset, .unset, .unset]) (pc' := 68) C P65 at_66 rfl rfl ?_
  refine k_iload (pc' := 70) C P65 at_68 rfl rfl ?_
  refine k_iconst (z := (4 : Int32)) (pc' := 71) C P65 at_70 rfl rfl ?_
  refine k_iand (pc' := 72) C P65 at_71 rfl ?_
  refine k_join (pc' := 87) (Ls' := #[.val (.long p0), .second, .val (.long p1), .second, .val (.long p2), .second, .val (.long p3), .second, .val (.int p4), .val (.long y0), .second, .val (.long y1), .second, .val (.long y2), .second, .val (.long y3), .second, .val (.int m0), .val (.int m1), .unset, .unset, .unset, .unset, .unset, .unset, .unset, .unset, .unset, .unset, .unset, .unset, .unset, .unset, .unset, .unset]) (st' := [(.int (if ¬ (p4 &&& (4 : Int32)) = 0 ∧ y2 = 0 then (1 : Int32) else 0))]) P65 ?_ ?_
  · intro hj66
    refine k_ifB (pcY := 86) (pcN := 75) C P65 at_72 (by decide) (by decide) rfl ?_ ?_
    · intro (hc72 : (p4 &&& (4 : Int32)) = (0 : Int32))
      refine k_iconst (z := (0 : Int32)) (pc' := 87) C P65 at_86 rfl rfl ?_
      exact (hj66 _ P65).cast rfl (by rw [if_neg (fun q => q.1 hc72)])
    · intro (hc72 : ¬ (p4 &&& (4 : Int32)) = (0 : Int32))
      refine k_lload (pc' := 77) C P65 at_75 rfl rfl ?_
      refine k_lconst (z := (0 : Int64)) (pc' := 78) C P65 at_77 rfl rfl ?_
      refine k_lcmp (pc' := 79) C P65 at_78 rfl ?_
      refine k_ifB (pcY := 86) (pcN := 82) C P65 at_79 (by decide) (by decide) rfl ?_ ?_
      · intro (hc79 : ¬ (k_cmpL y2 (0 : Int64)) = (0 : Int32))
        refine k_iconst (z := (0 : Int32)) (pc' := 87) C P65 at_86 rfl rfl ?_
        exact (hj66 _ P65).cast rfl (by rw [if_neg (fun q => hc79 (own_lc0.mpr q.2))])
      · intro (hc79 : (k_cmpL y2 (0 : Int64)) = (0 : Int32))
        refine k_iconst (z := (1 : Int32)) (pc' := 83) C P65 at_82 rfl rfl ?_
        refine k_goto (pc' := 87) C P65 at_83 (by decide) (by decide) ?_
        exact (hj66 _ P65).cast rfl (by rw [if_pos ⟨hc72, own_lc0.mp hc79⟩])
  intro T66 P66
  obtain ⟨m2, e_m2⟩ : ∃ z, z = (if ¬ (p4 &&& (4 : Int32)) = 0 ∧ y2 = 0 then (1 : Int32) else 0) := ⟨_, rfl⟩
  rw [← e_m2]
  have h_m2 : own_zf m2 y2 := by rw [e_m2]; exact own_zfi _ _
  clear e_m2
  refine k_istore (l' := #[.val (.long p0), .second, .val (.long p1), .second, .val (.long p2), .second, .val (.long p3), .second, .val (.int p4), .val (.long y0), .second, .val (.long y1), .second, .val (.long y2), .second, .val (.long y3), .second, .val (.int m0), .val (.int m1), .val (.int m2), .unset, .unset, .unset, .unset, .unset, .unset, .unset, .unset, .unset, .unset, .unset, .unset, .unset, .unset, .unset]) (pc' := 89) C P66 at_87 rfl rfl ?_
  refine k_iload (pc' := 91) C P66 at_89 rfl rfl ?_
  refine k_bipush (z := (8 : Int32)) (pc' := 93) C P66 at_91 rfl rfl ?_
  refine k_iand (pc' := 94) C P66 at_93 rfl ?_
  refine k_join (pc' := 109) (Ls' := #[.val (.long p0), .second, .val (.long p1), .second, .val (.long p2), .second, .val (.long p3), .second, .val (.int p4), .val (.long y0), .second, .val (.long y1), .second, .val (.long y2), .second, .val (.long y3), .second, .val (.int m0), .val (.int m1), .val (.int m2), .unset, .unset, .unset, .unset, .unset, .unset, .unset, .unset, .unset, .unset, .unset, .unset, .unset, .unset, .unset]) (st' := [(.int (if ¬ (p4 &&& (8 : Int32)) = 0 ∧ y3 = 0 then (1 : Int32) else 0))]) P66 ?_ ?_
  · intro hj67
    refine k_ifB (pcY := 108) (pcN := 97) C P66 at_94 (by decide) (by decide) rfl ?_ ?_
    · intro (hc94 : (p4 &&& (8 : Int32)) = (0 : Int32))
      refine k_iconst (z := (0 : Int32)) (pc' := 109) C P66 at_108 rfl rfl ?_
      exact (hj67 _ P66).cast rfl (by rw [if_neg (fun q => q.1 hc94)])
    · intro (hc94 : ¬ (p4 &&& (8 : Int32)) = (0 : Int32))
      refine k_lload (pc' := 99) C P66 at_97 rfl rfl ?_
      refine k_lconst (z := (0 : Int64)) (pc' := 100) C P66 at_99 rfl rfl ?_
      refine k_lcmp (pc' := 101) C P66 at_100 rfl ?_
      refine k_ifB (pcY := 108) (pcN := 104) C P66 at_101 (by decide) (by decide) rfl ?_ ?_
      · intro (hc101 : ¬ (k_cmpL y3 (0 : Int64)) = (0 : Int32))
        refine k_iconst (z := (0 : Int32)) (pc' := 109) C P66 at_108 rfl rfl ?_
        exact (hj67 _ P66).cast rfl (by rw [if_neg (fun q => hc101 (own_lc0.mpr q.2))])
      · intro (hc101 : (k_cmpL y3 (0 : Int64)) = (0 : Int32))
        refine k_iconst (z := (1 : Int32)) (pc' := 105) C P66 at_104 rfl rfl ?_
        refine k_goto (pc' := 109) C P66 at_105 (by decide) (by decide) ?_
        exact (hj67 _ P66).cast rfl (by rw [if_pos ⟨hc94, own_lc0.mp hc101⟩])
  intro T67 P67
  obtain ⟨m3, e_m3⟩ : ∃ z, z = (if ¬ (p4 &&& (8 : Int32)) = 0 ∧ y3 = 0 then (1 : Int32) else 0) := ⟨_, rfl⟩
  rw [← e_m3]
  have h_m3 : own_zf m3 y3 := by rw [e_m3]; exact own_zfi _ _
  clear e_m3
  refine k_istore (l' := #[.val (.long p0), .second, .val (.long p1), .second, .val (.long p2), .second, .val (.long p3), .second, .val (.int p4), .val (.long y0), .second, .val (.long y1), .second, .val (.long y2), .second, .val (.long y3), .second, .val (.int m0), .val (.int m1), .val (.int m2), .val (.int m3), .unset, .unset, .unset, .unset, .unset, .unset, .unset, .unset, .unset, .unset, .unset, .unset, .unset, .unset]) (pc' := 111) C P67 at_109 rfl rfl ?_
  refine k_iconst (z := (4 : Int32)) (pc' := 112) C P67 at_111 rfl rfl ?_
  refine k_newp (pc' := 114) (cells' := 1) (slots' := 4) (N := 4) (cap := 4) C P67 (C.w 0 rfl) at_112 rfl (by decide) (by decide) rfl rfl (by decide) (by decide) rfl ?_
  intro T68 h68 b68 k68 P68 hs68 ge_b68 sz_b68 E68 V68
  refine k_astore (l' := #[.val (.long p0), .second, .val (.long p1), .second, .val (.long p2), .second, .val (.long p3), .second, .val (.int p4), .val (.long y0), .second, .val (.long y1), .second, .val (.long y2), .second, .val (.long y3), .second, .val (.int m0), .val (.int m1), .val (.int m2), .val (.int m3), .val (.ref b68), .unset, .unset, .unset, .unset, .unset, .unset, .unset, .unset, .unset, .unset, .unset, .unset, .unset]) (pc' := 116) C P68 at_114 rfl rfl rfl ?_
  refine k_aload (pc' := 118) C P68 at_116 rfl rfl rfl ?_
  refine k_iconst (z := (0 : Int32)) (pc' := 119) C P68 at_118 rfl rfl ?_
  refine k_lload (pc' := 121) C P68 at_119 rfl rfl ?_
  refine k_iload (pc' := 123) C P68 at_121 rfl rfl ?_
  refine k_callT (pc' := 126) (cells' := 1) (slots' := 4) (W := 2) C P68 (C.w 1 rfl) (C.w 2 rfl) (C.w 4 rfl) (C.w 3 rfl) (by decide) (rmKey l Z a0 hw _ n0 P68.size y0 m0) [(.long y0), (.int m0)] [(.int (0 : Int32)), (.ref b68)] rfl (lenOf pd_1 rfl) rfl (Nat.le_of_eq rfl) at_123 rfl (by decide) (by decide) rfl rfl (by decide) (by decide) all0 rfl ?_
  intro T69 h69 v69 P69 K69 Q69
  obtain ⟨e69, g69⟩ := Q69
  subst g69
  subst e69
  show KGo p e below _ T69 m 126 #[.val (.long p0), .second, .val (.long p1), .second, .val (.long p2), .second, .val (.long p3), .second, .val (.int p4), .val (.long y0), .second, .val (.long y1), .second, .val (.long y2), .second, .val (.long y3), .second, .val (.int m0), .val (.int m1), .val (.int m2), .val (.int m3), .val (.ref b68), .unset, .unset, .unset, .unset, .unset, .unset, .unset, .unset, .unset, .unset, .unset, .unset, .unset] [(.double (if m0 = 0 then FP.l2d y0 else FP.dneg (FP.l2d y0))), (.int (0 : Int32)), (.ref b68)]
  refine k_dastore (J := 0) (g' := (fun j => Value.double (if j = 0 then (if m0 = 0 then FP.l2d y0 else FP.dneg (FP.l2d y0)) else 0))) (pc' := 127) C P69 V68 at_126 rfl (by decide) (fun i hi => by match i, hi with | 0, _ => rfl | 1, _ => rfl | 2, _ => rfl | 3, _ => rfl) ge_b68 (Or.inr sz_b68) rfl ?_
  intro T70 h70 P70 W70 V70
  refine k_aload (pc' := 129) C P70 at_127 rfl rfl rfl ?_
  refine k_iconst (z := (1 : Int32)) (pc' := 130) C P70 at_129 rfl rfl ?_
  refine k_lload (pc' := 132) C P70 at_130 rfl rfl ?_
  refine k_iload (pc' := 134) C P70 at_132 rfl rfl ?_
  refine k_callT (pc' := 137) (cells' := 1) (slots' := 4) (W := 2) C P70 (C.w 1 rfl) (C.w 2 rfl) (C.w 4 rfl) (C.w 3 rfl) (by decide) (rmKey l Z a0 hw _ n0 P70.size y1 m1) [(.long y1), (.int m1)] [(.int (1 : Int32)), (.ref b68)] rfl (lenOf pd_1 rfl) rfl (Nat.le_of_eq rfl) at_134 rfl (by decide) (by decide) rfl rfl (by decide) (by decide) all0 rfl ?_
  intro T71 h71 v71 P71 K71 Q71
  obtain ⟨e71, g71⟩ := Q71
  subst g71
  subst e71
  show KGo p e below _ T71 m 137 #[.val (.long p0), .second, .val (.long p1), .second, .val (.long p2), .second, .val (.long p3), .second, .val (.int p4), .val (.long y0), .second, .val (.long y1), .second, .val (.long y2), .second, .val (.long y3), .second, .val (.int m0), .val (.int m1), .val (.int m2), .val (.int m3), .val (.ref b68), .unset, .unset, .unset, .unset, .unset, .unset, .unset, .unset, .unset, .unset, .unset, .unset, .unset] [(.double (if m1 = 0 then FP.l2d y1 else FP.dneg (FP.l2d y1))), (.int (1 : Int32)), (.ref b68)]
  refine k_dastore (J := 1) (g' := (fun j => Value.double (if j = 0 then (if m0 = 0 then FP.l2d y0 else FP.dneg (FP.l2d y0)) else if j = 1 then (if m1 = 0 then FP.l2d y1 else FP.dneg (FP.l2d y1)) else 0))) (pc' := 138) C P71 V70 at_137 rfl (by decide) (fun i hi => by match i, hi with | 0, _ => rfl | 1, _ => rfl | 2, _ => rfl | 3, _ => rfl) ge_b68 (Or.inr sz_b68) rfl ?_
  intro T72 h72 P72 W72 V72
  refine k_aload (pc' := 140) C P72 at_138 rfl rfl rfl ?_
  refine k_iconst (z := (2 : Int32)) (pc' := 141) C P72 at_140 rfl rfl ?_
  refine k_lload (pc' := 143) C P72 at_141 rfl rfl ?_
  refine k_iload (pc' := 145) C P72 at_143 rfl rfl ?_
  refine k_callT (pc' := 148) (cells' := 1) (slots' := 4) (W := 2) C P72 (C.w 1 rfl) (C.w 2 rfl) (C.w 4 rfl) (C.w 3 rfl) (by decide) (rmKey l Z a0 hw _ n0 P72.size y2 m2) [(.long y2), (.int m2)] [(.int (2 : Int32)), (.ref b68)] rfl (lenOf pd_1 rfl) rfl (Nat.le_of_eq rfl) at_145 rfl (by decide) (by decide) rfl rfl (by decide) (by decide) all0 rfl ?_
  intro T73 h73 v73 P73 K73 Q73
  obtain ⟨e73, g73⟩ := Q73
  subst g73
  subst e73
  show KGo p e below _ T73 m 148 #[.val (.long p0), .second, .val (.long p1), .second, .val (.long p2), .second, .val (.long p3), .second, .val (.int p4), .val (.long y0), .second, .val (.long y1), .second, .val (.long y2), .second, .val (.long y3), .second, .val (.int m0), .val (.int m1), .val (.int m2), .val (.int m3), .val (.ref b68), .unset, .unset, .unset, .unset, .unset, .unset, .unset, .unset, .unset, .unset, .unset, .unset, .unset] [(.double (if m2 = 0 then FP.l2d y2 else FP.dneg (FP.l2d y2))), (.int (2 : Int32)), (.ref b68)]
  refine k_dastore (J := 2) (g' := (fun j => Value.double (if j = 0 then (if m0 = 0 then FP.l2d y0 else FP.dneg (FP.l2d y0)) else if j = 1 then (if m1 = 0 then FP.l2d y1 else FP.dneg (FP.l2d y1)) else if j = 2 then (if m2 = 0 then FP.l2d y2 else FP.dneg (FP.l2d y2)) else 0))) (pc' := 149) C P73 V72 at_148 rfl (by decide) (fun i hi => by match i, hi with | 0, _ => rfl | 1, _ => rfl | 2, _ => rfl | 3, _ => rfl) ge_b68 (Or.inr sz_b68) rfl ?_
  intro T74 h74 P74 W74 V74
  refine k_aload (pc' := 151) C P74 at_149 rfl rfl rfl ?_
  refine k_iconst (z := (3 : Int32)) (pc' := 152) C P74 at_151 rfl rfl ?_
  refine k_lload (pc' := 154) C P74 at_152 rfl rfl ?_
  refine k_iload (pc' := 156) C P74 at_154 rfl rfl ?_
  refine k_callT (pc' := 159) (cells' := 1) (slots' := 4) (W := 2) C P74 (C.w 1 rfl) (C.w 2 rfl) (C.w 4 rfl) (C.w 3 rfl) (by decide) (rmKey l Z a0 hw _ n0 P74.size y3 m3) [(.long y3), (.int m3)] [(.int (3 : Int32)), (.ref b68)] rfl (lenOf pd_1 rfl) rfl (Nat.le_of_eq rfl) at_156 rfl (by decide) (by decide) rfl rfl (by decide) (by decide) all0 rfl ?_
  intro T75 h75 v75 P75 K75 Q75
  obtain ⟨e75, g75⟩ := Q75
  subst g75
  subst e75
  show KGo p e below _ T75 m 159 #[.val (.long p0), .second, .val (.long p1), .second, .val (.long p2), .second, .val (.long p3), .second, .val (.int p4), .val (.long y0), .second, .val (.long y1), .second, .val (.long y2), .second, .val (.long y3), .second, .val (.int m0), .val (.int m1), .val (.int m2), .val (.int m3), .val (.ref b68), .unset, .unset, .unset, .unset, .unset, .unset, .unset, .unset, .unset, .unset, .unset, .unset, .unset] [(.double (if m3 = 0 then FP.l2d y3 else FP.dneg (FP.l2d y3))), (.int (3 : Int32)), (.ref b68)]
  refine k_dastore (J := 3) (g' := (fun j => Value.double (if j = 0 then (if m0 = 0 then FP.l2d y0 else FP.dneg (FP.l2d y0)) else if j = 1 then (if m1 = 0 then FP.l2d y1 else FP.dneg (FP.l2d y1)) else if j = 2 then (if m2 = 0 then FP.l2d y2 else FP.dneg (FP.l2d y2)) else (if m3 = 0 then FP.l2d y3 else FP.dneg (FP.l2d y3))))) (pc' := 160) C P75 V74 at_159 rfl (by decide) (fun i hi => by match i, hi with | 0, _ => rfl | 1, _ => rfl | 2, _ => rfl | 3, _ => rfl) ge_b68 (Or.inr sz_b68) rfl ?_
  intro T76 h76 P76 W76 V76
  refine k_lload (pc' := 162) C P76 at_160 rfl rfl ?_
  refine k_iload (pc' := 164) C P76 at_162 rfl rfl ?_
  refine k_callT (pc' := 167) (cells' := 1) (slots' := 4) (W := 0) C P76 (C.w 5 rfl) (C.w 6 rfl) (C.w 7 rfl) (C.w 3 rfl) (by decide) (rmCode l Z a0 hw _ n0 P76.size y0 m0) [(.long y0), (.int m0)] [] rfl (lenOf pd_2 rfl) rfl (Nat.le_of_eq rfl) at_164 rfl (by decide) (by decide) rfl rfl (by decide) (by decide) all0 rfl ?_
  intro T77 h77 v77 P77 K77 Q77
  obtain ⟨e77, g77⟩ := Q77
  subst g77
  subst e77
  show KGo p e below _ T77 m 167 #[.val (.long p0), .second, .val (.long p1), .second, .val (.long p2), .second, .val (.long p3), .second, .val (.int p4), .val (.long y0), .second, .val (.long y1), .second, .val (.long y2), .second, .val (.long y3), .second, .val (.int m0), .val (.int m1), .val (.int m2), .val (.int m3), .val (.ref b68), .unset, .unset, .unset, .unset, .unset, .unset, .unset, .unset, .unset, .unset, .unset, .unset, .unset] [(.long (if m0 = 0 then ((2 : Int64) * y0) + (1 : Int64) else (2 : Int64) * y0))]
  obtain ⟨r0, e_r0⟩ : ∃ z, z = (if m0 = 0 then ((2 : Int64) * y0) + (1 : Int64) else (2 : Int64) * y0) := ⟨_, rfl⟩
  rw [← e_r0]
  refine k_lstore (l' := #[.val (.long p0), .second, .val (.long p1), .second, .val (.long p2), .second, .val (.long p3), .second, .val (.int p4), .val (.long y0), .second, .val (.long y1), .second, .val (.long y2), .second, .val (.long y3), .second, .val (.int m0), .val (.int m1), .val (.int m2), .val (.int m3), .val (.ref b68), .val (.long r0), .second, .unset, .unset, .unset, .unset, .unset, .unset, .unset, .unset, .unset, .unset, .unset]) (pc' := 169) C P77 at_167 rfl rfl ?_
  refine k_lload (pc' := 171) C P77 at_169 rfl rfl ?_
  refine k_iload (pc' := 173) C P77 at_171 rfl rfl ?_
  refine k_callT (pc' := 176) (cells' := 1) (slots' := 4) (W := 0) C P77 (C.w 5 rfl) (C.w 6 rfl) (C.w 7 rfl) (C.w 3 rfl) (by decide) (rmCode l Z a0 hw _ n0 P77.size y1 m1) [(.long y1), (.int m1)] [] rfl (lenOf pd_2 rfl) rfl (Nat.le_of_eq rfl) at_173 rfl (by decide) (by decide) rfl rfl (by decide) (by decide) all0 rfl ?_
  intro T78 h78 v78 P78 K78 Q78
  obtain ⟨e78, g78⟩ := Q78
  subst g78
  subst e78
  show KGo p e below _ T78 m 176 #[.val (.long p0), .second, .val (.long p1), .second, .val (.long p2), .second, .val (.long p3), .second, .val (.int p4), .val (.long y0), .second, .val (.long y1), .second, .val (.long y2), .second, .val (.long y3), .second, .val (.int m0), .val (.int m1), .val (.int m2), .val (.int m3), .val (.ref b68), .val (.long r0), .second, .unset, .unset, .unset, .unset, .unset, .unset, .unset, .unset, .unset, .unset, .unset] [(.long (if m1 = 0 then ((2 : Int64) * y1) + (1 : Int64) else (2 : Int64) * y1))]
  obtain ⟨r1, e_r1⟩ : ∃ z, z = (if m1 = 0 then ((2 : Int64) * y1) + (1 : Int64) else (2 : Int64) * y1) := ⟨_, rfl⟩
  rw [← e_r1]
  refine k_lstore (l' := #[.val (.long p0), .second, .val (.long p1), .second, .val (.long p2), .second, .val (.long p3), .second, .val (.int p4), .val (.long y0), .second, .val (.long y1), .second, .val (.long y2), .second, .val (.long y3), .second, .val (.int m0), .val (.int m1), .val (.int m2), .val (.int m3), .val (.ref b68), .val (.long r0), .second, .val (.long r1), .second, .unset, .unset, .unset, .unset, .unset, .unset, .unset, .unset, .unset]) (pc' := 178) C P78 at_176 rfl rfl ?_
  refine k_lload (pc' := 180) C P78 at_178 rfl rfl ?_
  refine k_iload (pc' := 182) C P78 at_180 rfl rfl ?_
  refine k_callT (pc' := 185) (cells' := 1) (slots' := 4) (W := 0) C P78 (C.w 5 rfl) (C.w 6 rfl) (C.w 7 rfl) (C.w 3 rfl) (by decide) (rmCode l Z a0 hw _ n0 P78.size y2 m2) [(.long y2), (.int m2)] [] rfl (lenOf pd_2 rfl) rfl (Nat.le_of_eq rfl) at_182 rfl (by decide) (by decide) rfl rfl (by decide) (by decide) all0 rfl ?_
  intro T79 h79 v79 P79 K79 Q79
  obtain ⟨e79, g79⟩ := Q79
  subst g79
  subst e79
  show KGo p e below _ T79 m 185 #[.val (.long p0), .second, .val (.long p1), .second, .val (.long p2), .second, .val (.long p3), .second, .val (.int p4), .val (.long y0), .second, .val (.long y1), .second, .val (.long y2), .second, .val (.long y3), .second, .val (.int m0), .val (.int m1), .val (.int m2), .val (.int m3), .val (.ref b68), .val (.long r0), .second, .val (.long r1), .second, .unset, .unset, .unset, .unset, .unset, .unset, .unset, .unset, .unset] [(.long (if m2 = 0 then ((2 : Int64) * y2) + (1 : Int64) else (2 : Int64) * y2))]
  obtain ⟨r2, e_r2⟩ : ∃ z, z = (if m2 = 0 then ((2 : Int64) * y2) + (1 : Int64) else (2 : Int64) * y2) := ⟨_, rfl⟩
  rw [← e_r2]
  refine k_lstore (l' := #[.val (.long p0), .second, .val (.long p1), .second, .val (.long p2), .second, .val (.long p3), .second, .val (.int p4), .val (.long y0), .second, .val (.long y1), .second, .val (.long y2), .second, .val (.long y3), .second, .val (.int m0), .val (.int m1), .val (.int m2), .val (.int m3), .val (.ref b68), .val (.long r0), .second, .val (.long r1), .second, .val (.long r2), .second, .unset, .unset, .unset, .unset, .unset, .unset, .unset]) (pc' := 187) C P79 at_185 rfl rfl ?_
  refine k_lload (pc' := 189) C P79 at_187 rfl rfl ?_
  refine k_iload (pc' := 191) C P79 at_189 rfl rfl ?_
  refine k_callT (pc' := 194) (cells' := 1) (slots' := 4) (W := 0) C P79 (C.w 5 rfl) (C.w 6 rfl) (C.w 7 rfl) (C.w 3 rfl) (by decide) (rmCode l Z a0 hw _ n0 P79.size y3 m3) [(.long y3), (.int m3)] [] rfl (lenOf pd_2 rfl) rfl (Nat.le_of_eq rfl) at_191 rfl (by decide) (by decide) rfl rfl (by decide) (by decide) all0 rfl ?_
  intro T80 h80 v80 P80 K80 Q80
  obtain ⟨e80, g80⟩ := Q80
  subst g80
  subst e80
  show KGo p e below _ T80 m 194 #[.val (.long p0), .second, .val (.long p1), .second, .val (.long p2), .second, .val (.long p3), .second, .val (.int p4), .val (.long y0), .second, .val (.long y1), .second, .val (.long y2), .second, .val (.long y3), .second, .val (.int m0), .val (.int m1), .val (.int m2), .val (.int m3), .val (.ref b68), .val (.long r0), .second, .val (.long r1), .second, .val (.long r2), .second, .unset, .unset, .unset, .unset, .unset, .unset, .unset] [(.long (if m3 = 0 then ((2 : Int64) * y3) + (1 : Int64) else (2 : Int64) * y3))]
  obtain ⟨r3, e_r3⟩ : ∃ z, z = (if m3 = 0 then ((2 : Int64) * y3) + (1 : Int64) else (2 : Int64) * y3) := ⟨_, rfl⟩
  rw [← e_r3]
  refine k_lstore (l' := #[.val (.long p0), .second, .val (.long p1), .second, .val (.long p2), .second, .val (.long p3), .second, .val (.int p4), .val (.long y0), .second, .val (.long y1), .second, .val (.long y2), .second, .val (.long y3), .second, .val (.int m0), .val (.int m1), .val (.int m2), .val (.int m3), .val (.ref b68), .val (.long r0), .second, .val (.long r1), .second, .val (.long r2), .second, .val (.long r3), .second, .unset, .unset, .unset, .unset, .unset]) (pc' := 196) C P80 at_194 rfl rfl ?_
  refine k_lload (pc' := 198) C P80 at_196 rfl rfl ?_
  refine k_iconst (z := (1 : Int32)) (pc' := 199) C P80 at_198 rfl rfl ?_
  refine k_lload (pc' := 201) C P80 at_199 rfl rfl ?_
  refine k_iconst (z := (0 : Int32)) (pc' := 202) C P80 at_201 rfl rfl ?_
  refine k_callT (pc' := 205) (cells' := 1) (slots' := 4) (W := 0) C P80 (C.w 9 rfl) (C.w 10 rfl) (C.w 11 rfl) (C.w 3 rfl) (by decide) (rmBef l Z a0 hw _ n0 P80.size r1 (1 : Int32) r0 (0 : Int32)) [(.long r1), (.int (1 : Int32)), (.long r0), (.int (0 : Int32))] [] rfl (lenOf pd_3 rfl) rfl (Nat.le_of_eq rfl) at_202 rfl (by decide) (by decide) rfl rfl (by decide) (by decide) all0 rfl ?_
  intro T81 h81 v81 P81 K81 Q81
  obtain ⟨e81, g81⟩ := Q81
  subst g81
  subst e81
  show KGo p e below _ T81 m 205 #[.val (.long p0), .second, .val (.long p1), .second, .val (.long p2), .second, .val (.long p3), .second, .val (.int p4), .val (.long y0), .second, .val (.long y1), .second, .val (.long y2), .second, .val (.long y3), .second, .val (.int m0), .val (.int m1), .val (.int m2), .val (.int m3), .val (.ref b68), .val (.long r0), .second, .val (.long r1), .second, .val (.long r2), .second, .val (.long r3), .second, .unset, .unset, .unset, .unset, .unset] [(.int (if r1 < r0 ∨ (r1 = r0 ∧ (1 : Int32) < (0 : Int32)) then (1 : Int32) else 0))]
  refine k_lload (pc' := 207) C P81 at_205 rfl rfl ?_
  refine k_iconst (z := (2 : Int32)) (pc' := 208) C P81 at_207 rfl rfl ?_
  refine k_lload (pc' := 210) C P81 at_208 rfl rfl ?_
  refine k_iconst (z := (0 : Int32)) (pc' := 211) C P81 at_210 rfl rfl ?_
  refine k_callT (pc' := 214) (cells' := 1) (slots' := 4) (W := 1) C P81 (C.w 9 rfl) (C.w 10 rfl) (C.w 11 rfl) (C.w 3 rfl) (by decide) (rmBef l Z a0 hw _ n0 P81.size r2 (2 : Int32) r0 (0 : Int32)) [(.long r2), (.int (2 : Int32)), (.long r0), (.int (0 : Int32))] [(.int (if r1 < r0 ∨ (r1 = r0 ∧ (1 : Int32) < (0 : Int32)) then (1 : Int32) else 0))] rfl (lenOf pd_3 rfl) rfl (Nat.le_of_eq rfl) at_211 rfl (by decide) (by decide) rfl rfl (by decide) (by decide) all0 rfl ?_
  intro T82 h82 v82 P82 K82 Q82
  obtain ⟨e82, g82⟩ := Q82
  subst g82
  subst e82
  show KGo p e below _ T82 m 214 #[.val (.long p0), .second, .val (.long p1), .second, .val (.long p2), .second, .val (.long p3), .second, .val (.int p4), .val (.long y0), .second, .val (.long y1), .second, .val (.long y2), .second, .val (.long y3), .second, .val (.int m0), .val (.int m1), .val (.int m2), .val (.int m3), .val (.ref b68), .val (.long r0), .second, .val (.long r1), .second, .val (.long r2), .second, .val (.long r3), .second, .unset, .unset, .unset, .unset, .unset] [(.int (if r2 < r0 ∨ (r2 = r0 ∧ (2 : Int32) < (0 : Int32)) then (1 : Int32) else 0)), (.int (if r1 < r0 ∨ (r1 = r0 ∧ (1 : Int32) < (0 : Int32)) then (1 : Int32) else 0))]
  refine k_iadd (pc' := 215) C P82 at_214 rfl ?_
  refine k_lload (pc' := 217) C P82 at_215 rfl rfl ?_
  refine k_iconst (z := (3 : Int32)) (pc' := 218) C P82 at_217 rfl rfl ?_
  refine k_lload (pc' := 220) C P82 at_218 rfl rfl ?_
  refine k_iconst (z := (0 : Int32)) (pc' := 221) C P82 at_220 rfl rfl ?_
  refine k_callT (pc' := 224) (cells' := 1) (slots' := 4) (W := 1) C P82 (C.w 9 rfl) (C.w 10 rfl) (C.w 11 rfl) (C.w 3 rfl) (by decide) (rmBef l Z a0 hw _ n0 P82.size r3 (3 : Int32) r0 (0 : Int32)) [(.long r3), (.int (3 : Int32)), (.long r0), (.int (0 : Int32))] [(.int ((if r1 < r0 ∨ (r1 = r0 ∧ (1 : Int32) < (0 : Int32)) then (1 : Int32) else 0) + (if r2 < r0 ∨ (r2 = r0 ∧ (2 : Int32) < (0 : Int32)) then (1 : Int32) else 0)))] rfl (lenOf pd_3 rfl) rfl (Nat.le_of_eq rfl) at_221 rfl (by decide) (by decide) rfl rfl (by decide) (by decide) all0 rfl ?_
  intro T83 h83 v83 P83 K83 Q83
  obtain ⟨e83, g83⟩ := Q83
  subst g83
  subst e83
  show KGo p e below _ T83 m 224 #[.val (.long p0), .second, .val (.long p1), .second, .val (.long p2), .second, .val (.long p3), .second, .val (.int p4), .val (.long y0), .second, .val (.long y1), .second, .val (.long y2), .second, .val (.long y3), .second, .val (.int m0), .val (.int m1), .val (.int m2), .val (.int m3), .val (.ref b68), .val (.long r0), .second, .val (.long r1), .second, .val (.long r2), .second, .val (.long r3), .second, .unset, .unset, .unset, .unset, .unset] [(.int (if r3 < r0 ∨ (r3 = r0 ∧ (3 : Int32) < (0 : Int32)) then (1 : Int32) else 0)), (.int ((if r1 < r0 ∨ (r1 = r0 ∧ (1 : Int32) < (0 : Int32)) then (1 : Int32) else 0) + (if r2 < r0 ∨ (r2 = r0 ∧ (2 : Int32) < (0 : Int32)) then (1 : Int32) else 0)))]
  refine k_iadd (pc' := 225) C P83 at_224 rfl ?_
  obtain ⟨z30, e_z30⟩ : ∃ z, z = (((if r1 < r0 ∨ (r1 = r0 ∧ (1 : Int32) < (0 : Int32)) then (1 : Int32) else 0) + (if r2 < r0 ∨ (r2 = r0 ∧ (2 : Int32) < (0 : Int32)) then (1 : Int32) else 0)) + (if r3 < r0 ∨ (r3 = r0 ∧ (3 : Int32) < (0 : Int32)) then (1 : Int32) else 0)) := ⟨_, rfl⟩
  rw [← e_z30]
  refine k_istore (l' := #[.val (.long p0), .second, .val (.long p1), .second, .val (.long p2), .second, .val (.long p3), .second, .val (.int p4), .val (.long y0), .second, .val (.long y1), .second, .val (.long y2), .second, .val (.long y3), .second, .val (.int m0), .val (.int m1), .val (.int m2), .val (.int m3), .val (.ref b68), .val (.long r0), .second, .val (.long r1), .second, .val (.long r2), .second, .val (.long r3), .second, .val (.int z30), .unset, .unset, .unset, .unset]) (pc' := 227) C P83 at_225 rfl rfl ?_
  refine k_lload (pc' := 229) C P83 at_227 rfl rfl ?_
  refine k_iconst (z := (0 : Int32)) (pc' := 230) C P83 at_229 rfl rfl ?_
  refine k_lload (pc' := 232) C P83 at_230 rfl rfl ?_
  refine k_iconst (z := (1 : Int32)) (pc' := 233) C P83 at_232 rfl rfl ?_
  refine k_callT (pc' := 236) (cells' := 1) (slots' := 4) (W := 0) C P83 (C.w 9 rfl) (C.w 10 rfl) (C.w 11 rfl) (C.w 3 rfl) (by decide) (rmBef l Z a0 hw _ n0 P83.size r0 (0 : Int32) r1 (1 : Int32)) [(.long r0), (.int (0 : Int32)), (.long r1), (.int (1 : Int32))] [] rfl (lenOf pd_3 rfl) rfl (Nat.le_of_eq rfl) at_233 rfl (by decide) (by decide) rfl rfl (by decide) (by decide) all0 rfl ?_
  intro T84 h84 v84 P84 K84 Q84
  obtain ⟨e84, g84⟩ := Q84
  subst g84
  subst e84
  show KGo p e below _ T84 m 236 #[.val (.long p0), .second, .val (.long p1), .second, .val (.long p2), .second, .val (.long p3), .second, .val (.int p4), .val (.long y0), .second, .val (.long y1), .second, .val (.long y2), .second, .val (.long y3), .second, .val (.int m0), .val (.int m1), .val (.int m2), .val (.int m3), .val (.ref b68), .val (.long r0), .second, .val (.long r1), .second, .val (.long r2), .second, .val (.long r3), .second, .val (.int z30), .unset, .unset, .unset, .unset] [(.int (if r0 < r1 ∨ (r0 = r1 ∧ (0 : Int32) < (1 : Int32)) then (1 : Int32) else 0))]
  refine k_lload (pc' := 238) C P84 at_236 rfl rfl ?_
  refine k_iconst (z := (2 : Int32)) (pc' := 239) C P84 at_238 rfl rfl ?_
  refine k_lload (pc' := 241) C P84 at_239 rfl rfl ?_
  refine k_iconst (z := (1 : Int32)) (pc' := 242) C P84 at_241 rfl rfl ?_
  refine k_callT (pc' := 245) (cells' := 1) (slots' := 4) (W := 1) C P84 (C.w 9 rfl) (C.w 10 rfl) (C.w 11 rfl) (C.w 3 rfl) (by decide) (rmBef l Z a0 hw _ n0 P84.size r2 (2 : Int32) r1 (1 : Int32)) [(.long r2), (.int (2 : Int32)), (.long r1), (.int (1 : Int32))] [(.int (if r0 < r1 ∨ (r0 = r1 ∧ (0 : Int32) < (1 : Int32)) then (1 : Int32) else 0))] rfl (lenOf pd_3 rfl) rfl (Nat.le_of_eq rfl) at_242 rfl (by decide) (by decide) rfl rfl (by decide) (by decide) all0 rfl ?_
  intro T85 h85 v85 P85 K85 Q85
  obtain ⟨e85, g85⟩ := Q85
  subst g85
  subst e85
  show KGo p e below _ T85 m 245 #[.val (.long p0), .second, .val (.long p1), .second, .val (.long p2), .second, .val (.long p3), .second, .val (.int p4), .val (.long y0), .second, .val (.long y1), .second, .val (.long y2), .second, .val (.long y3), .second, .val (.int m0), .val (.int m1), .val (.int m2), .val (.int m3), .val (.ref b68), .val (.long r0), .second, .val (.long r1), .second, .val (.long r2), .second, .val (.long r3), .second, .val (.int z30), .unset, .unset, .unset, .unset] [(.int (if r2 < r1 ∨ (r2 = r1 ∧ (2 : Int32) < (1 : Int32)) then (1 : Int32) else 0)), (.int (if r0 < r1 ∨ (r0 = r1 ∧ (0 : Int32) < (1 : Int32)) then (1 : Int32) else 0))]
  refine k_iadd (pc' := 246) C P85 at_245 rfl ?_
  refine k_lload (pc' := 248) C P85 at_246 rfl rfl ?_
  refine k_iconst (z := (3 : Int32)) (pc' := 249) C P85 at_248 rfl rfl ?_
  refine k_lload (pc' := 251) C P85 at_249 rfl rfl ?_
  refine k_iconst (z := (1 : Int32)) (pc' := 252) C P85 at_251 rfl rfl ?_
  refine k_callT (pc' := 255) (cells' := 1) (slots' := 4) (W := 1) C P85 (C.w 9 rfl) (C.w 10 rfl) (C.w 11 rfl) (C.w 3 rfl) (by decide) (rmBef l Z a0 hw _ n0 P85.size r3 (3 : Int32) r1 (1 : Int32)) [(.long r3), (.int (3 : Int32)), (.long r1), (.int (1 : Int32))] [(.int ((if r0 < r1 ∨ (r0 = r1 ∧ (0 : Int32) < (1 : Int32)) then (1 : Int32) else 0) + (if r2 < r1 ∨ (r2 = r1 ∧ (2 : Int32) < (1 : Int32)) then (1 : Int32) else 0)))] rfl (lenOf pd_3 rfl) rfl (Nat.le_of_eq rfl) at_252 rfl (by decide) (by decide) rfl rfl (by decide) (by decide) all0 rfl ?_
  intro T86 h86 v86 P86 K86 Q86
  obtain ⟨e86, g86⟩ := Q86
  subst g86
  subst e86
  show KGo p e below _ T86 m 255 #[.val (.long p0), .second, .val (.long p1), .second, .val (.long p2), .second, .val (.long p3), .second, .val (.int p4), .val (.long y0), .second, .val (.long y1), .second, .val (.long y2), .second, .val (.long y3), .second, .val (.int m0), .val (.int m1), .val (.int m2), .val (.int m3), .val (.ref b68), .val (.long r0), .second, .val (.long r1), .second, .val (.long r2), .second, .val (.long r3), .second, .val (.int z30), .unset, .unset, .unset, .unset] [(.int (if r3 < r1 ∨ (r3 = r1 ∧ (3 : Int32) < (1 : Int32)) then (1 : Int32) else 0)), (.int ((if r0 < r1 ∨ (r0 = r1 ∧ (0 : Int32) < (1 : Int32)) then (1 : Int32) else 0) + (if r2 < r1 ∨ (r2 = r1 ∧ (2 : Int32) < (1 : Int32)) then (1 : Int32) else 0)))]
  refine k_iadd (pc' := 256) C P86 at_255 rfl ?_
  obtain ⟨z31, e_z31⟩ : ∃ z, z = (((if r0 < r1 ∨ (r0 = r1 ∧ (0 : Int32) < (1 : Int32)) then (1 : Int32) else 0) + (if r2 < r1 ∨ (r2 = r1 ∧ (2 : Int32) < (1 : Int32)) then (1 : Int32) else 0)) + (if r3 < r1 ∨ (r3 = r1 ∧ (3 : Int32) < (1 : Int32)) then (1 : Int32) else 0)) := ⟨_, rfl⟩
  rw [← e_z31]
  refine k_istore (l' := #[.val (.long p0), .second, .val (.long p1), .second, .val (.long p2), .second, .val (.long p3), .second, .val (.int p4), .val (.long y0), .second, .val (.long y1), .second, .val (.long y2), .second, .val (.long y3), .second, .val (.int m0), .val (.int m1), .val (.int m2), .val (.int m3), .val (.ref b68), .val (.long r0), .second, .val (.long r1), .second, .val (.long r2), .second, .val (.long r3), .second, .val (.int z30), .val (.int z31), .unset, .unset, .unset]) (pc' := 258) C P86 at_256 rfl rfl ?_
  refine k_lload (pc' := 260) C P86 at_258 rfl rfl ?_
  refine k_iconst (z := (0 : Int32)) (pc' := 261) C P86 at_260 rfl rfl ?_
  refine k_lload (pc' := 263) C P86 at_261 rfl rfl ?_
  refine k_iconst (z := (2 : Int32)) (pc' := 264) C P86 at_263 rfl rfl ?_
  refine k_callT (pc' := 267) (cells' := 1) (slots' := 4) (W := 0) C P86 (C.w 9 rfl) (C.w 10 rfl) (C.w 11 rfl) (C.w 3 rfl) (by decide) (rmBef l Z a0 hw _ n0 P86.size r0 (0 : Int32) r2 (2 : Int32)) [(.long r0), (.int (0 : Int32)), (.long r2), (.int (2 : Int32))] [] rfl (lenOf pd_3 rfl) rfl (Nat.le_of_eq rfl) at_264 rfl (by decide) (by decide) rfl rfl (by decide) (by decide) all0 rfl ?_
  intro T87 h87 v87 P87 K87 Q87
  obtain ⟨e87, g87⟩ := Q87
  subst g87
  subst e87
  show KGo p e below _ T87 m 267 #[.val (.long p0), .second, .val (.long p1), .second, .val (.long p2), .second, .val (.long p3), .second, .val (.int p4), .val (.long y0), .second, .val (.long y1), .second, .val (.long y2), .second, .val (.long y3), .second, .val (.int m0), .val (.int m1), .val (.int m2), .val (.int m3), .val (.ref b68), .val (.long r0), .second, .val (.long r1), .second, .val (.long r2), .second, .val (.long r3), .second, .val (.int z30), .val (.int z31), .unset, .unset, .unset] [(.int (if r0 < r2 ∨ (r0 = r2 ∧ (0 : Int32) < (2 : Int32)) then (1 : Int32) else 0))]
  refine k_lload (pc' := 269) C P87 at_267 rfl rfl ?_
  refine k_iconst (z := (1 : Int32)) (pc' := 270) C P87 at_269 rfl rfl ?_
  refine k_lload (pc' := 272) C P87 at_270 rfl rfl ?_
  refine k_iconst (z := (2 : Int32)) (pc' := 273) C P87 at_272 rfl rfl ?_
  refine k_callT (pc' := 276) (cells' := 1) (slots' := 4) (W := 1) C P87 (C.w 9 rfl) (C.w 10 rfl) (C.w 11 rfl) (C.w 3 rfl) (by decide) (rmBef l Z a0 hw _ n0 P87.size r1 (1 : Int32) r2 (2 : Int32)) [(.long r1), (.int (1 : Int32)), (.long r2), (.int (2 : Int32))] [(.int (if r0 < r2 ∨ (r0 = r2 ∧ (0 : Int32) < (2 : Int32)) then (1 : Int32) else 0))] rfl (lenOf pd_3 rfl) rfl (Nat.le_of_eq rfl) at_273 rfl (by decide) (by decide) rfl rfl (by decide) (by decide) all0 rfl ?_
  intro T88 h88 v88 P88 K88 Q88
  obtain ⟨e88, g88⟩ := Q88
  subst g88
  subst e88
  show KGo p e below _ T88 m 276 #[.val (.long p0), .second, .val (.long p1), .second, .val (.long p2), .second, .val (.long p3), .second, .val (.int p4), .val (.long y0), .second, .val (.long y1), .second, .val (.long y2), .second, .val (.long y3), .second, .val (.int m0), .val (.int m1), .val (.int m2), .val (.int m3), .val (.ref b68), .val (.long r0), .second, .val (.long r1), .second, .val (.long r2), .second, .val (.long r3), .second, .val (.int z30), .val (.int z31), .unset, .unset, .unset] [(.int (if r1 < r2 ∨ (r1 = r2 ∧ (1 : Int32) < (2 : Int32)) then (1 : Int32) else 0)), (.int (if r0 < r2 ∨ (r0 = r2 ∧ (0 : Int32) < (2 : Int32)) then (1 : Int32) else 0))]
  refine k_iadd (pc' := 277) C P88 at_276 rfl ?_
  refine k_lload (pc' := 279) C P88 at_277 rfl rfl ?_
  refine k_iconst (z := (3 : Int32)) (pc' := 280) C P88 at_279 rfl rfl ?_
  refine k_lload (pc' := 282) C P88 at_280 rfl rfl ?_
  refine k_iconst (z := (2 : Int32)) (pc' := 283) C P88 at_282 rfl rfl ?_
  refine k_callT (pc' := 286) (cells' := 1) (slots' := 4) (W := 1) C P88 (C.w 9 rfl) (C.w 10 rfl) (C.w 11 rfl) (C.w 3 rfl) (by decide) (rmBef l Z a0 hw _ n0 P88.size r3 (3 : Int32) r2 (2 : Int32)) [(.long r3), (.int (3 : Int32)), (.long r2), (.int (2 : Int32))] [(.int ((if r0 < r2 ∨ (r0 = r2 ∧ (0 : Int32) < (2 : Int32)) then (1 : Int32) else 0) + (if r1 < r2 ∨ (r1 = r2 ∧ (1 : Int32) < (2 : Int32)) then (1 : Int32) else 0)))] rfl (lenOf pd_3 rfl) rfl (Nat.le_of_eq rfl) at_283 rfl (by decide) (by decide) rfl rfl (by decide) (by decide) all0 rfl ?_
  intro T89 h89 v89 P89 K89 Q89
  obtain ⟨e89, g89⟩ := Q89
  subst g89
  subst e89
  show KGo p e below _ T89 m 286 #[.val (.long p0), .second, .val (.long p1), .second, .val (.long p2), .second, .val (.long p3), .second, .val (.int p4), .val (.long y0), .second, .val (.long y1), .second, .val (.long y2), .second, .val (.long y3), .second, .val (.int m0), .val (.int m1), .val (.int m2), .val (.int m3), .val (.ref b68), .val (.long r0), .second, .val (.long r1), .second, .val (.long r2), .second, .val (.long r3), .second, .val (.int z30), .val (.int z31), .unset, .unset, .unset] [(.int (if r3 < r2 ∨ (r3 = r2 ∧ (3 : Int32) < (2 : Int32)) then (1 : Int32) else 0)), (.int ((if r0 < r2 ∨ (r0 = r2 ∧ (0 : Int32) < (2 : Int32)) then (1 : Int32) else 0) + (if r1 < r2 ∨ (r1 = r2 ∧ (1 : Int32) < (2 : Int32)) then (1 : Int32) else 0)))]
  refine k_iadd (pc' := 287) C P89 at_286 rfl ?_
  obtain ⟨z32, e_z32⟩ : ∃ z, z = (((if r0 < r2 ∨ (r0 = r2 ∧ (0 : Int32) < (2 : Int32)) then (1 : Int32) else 0) + (if r1 < r2 ∨ (r1 = r2 ∧ (1 : Int32) < (2 : Int32)) then (1 : Int32) else 0)) + (if r3 < r2 ∨ (r3 = r2 ∧ (3 : Int32) < (2 : Int32)) then (1 : Int32) else 0)) := ⟨_, rfl⟩
  rw [← e_z32]
  refine k_istore (l' := #[.val (.long p0), .second, .val (.long p1), .second, .val (.long p2), .second, .val (.long p3), .second, .val (.int p4), .val (.long y0), .second, .val (.long y1), .second, .val (.long y2), .second, .val (.long y3), .second, .val (.int m0), .val (.int m1), .val (.int m2), .val (.int m3), .val (.ref b68), .val (.long r0), .second, .val (.long r1), .second, .val (.long r2), .second, .val (.long r3), .second, .val (.int z30), .val (.int z31), .val (.int z32), .unset, .unset]) (pc' := 289) C P89 at_287 rfl rfl ?_
  refine k_lload (pc' := 291) C P89 at_289 rfl rfl ?_
  refine k_iconst (z := (0 : Int32)) (pc' := 292) C P89 at_291 rfl rfl ?_
  refine k_lload (pc' := 294) C P89 at_292 rfl rfl ?_
  refine k_iconst (z := (3 : Int32)) (pc' := 295) C P89 at_294 rfl rfl ?_
  refine k_callT (pc' := 298) (cells' := 1) (slots' := 4) (W := 0) C P89 (C.w 9 rfl) (C.w 10 rfl) (C.w 11 rfl) (C.w 3 rfl) (by decide) (rmBef l Z a0 hw _ n0 P89.size r0 (0 : Int32) r3 (3 : Int32)) [(.long r0), (.int (0 : Int32)), (.long r3), (.int (3 : Int32))] [] rfl (lenOf pd_3 rfl) rfl (Nat.le_of_eq rfl) at_295 rfl (by decide) (by decide) rfl rfl (by decide) (by decide) all0 rfl ?_
  intro T90 h90 v90 P90 K90 Q90
  obtain ⟨e90, g90⟩ := Q90
  subst g90
  subst e90
  show KGo p e below _ T90 m 298 #[.val (.long p0), .second, .val (.long p1), .second, .val (.long p2), .second, .val (.long p3), .second, .val (.int p4), .val (.long y0), .second, .val (.long y1), .second, .val (.long y2), .second, .val (.long y3), .second, .val (.int m0), .val (.int m1), .val (.int m2), .val (.int m3), .val (.ref b68), .val (.long r0), .second, .val (.long r1), .second, .val (.long r2), .second, .val (.long r3), .second, .val (.int z30), .val (.int z31), .val (.int z32), .unset, .unset] [(.int (if r0 < r3 ∨ (r0 = r3 ∧ (0 : Int32) < (3 : Int32)) then (1 : Int32) else 0))]
  refine k_lload (pc' := 300) C P90 at_298 rfl rfl ?_
  refine k_iconst (z := (1 : Int32)) (pc' := 301) C P90 at_300 rfl rfl ?_
  refine k_lload (pc' := 303) C P90 at_301 rfl rfl ?_
  refine k_iconst (z := (3 : Int32)) (pc' := 304) C P90 at_303 rfl rfl ?_
  refine k_callT (pc' := 307) (cells' := 1) (slots' := 4) (W := 1) C P90 (C.w 9 rfl) (C.w 10 rfl) (C.w 11 rfl) (C.w 3 rfl) (by decide) (rmBef l Z a0 hw _ n0 P90.size r1 (1 : Int32) r3 (3 : Int32)) [(.long r1), (.int (1 : Int32)), (.long r3), (.int (3 : Int32))] [(.int (if r0 < r3 ∨ (r0 = r3 ∧ (0 : Int32) < (3 : Int32)) then (1 : Int32) else 0))] rfl (lenOf pd_3 rfl) rfl (Nat.le_of_eq rfl) at_304 rfl (by decide) (by decide) rfl rfl (by decide) (by decide) all0 rfl ?_
  intro T91 h91 v91 P91 K91 Q91
  obtain ⟨e91, g91⟩ := Q91
  subst g91
  subst e91
  show KGo p e below _ T91 m 307 #[.val (.long p0), .second, .val (.long p1), .second, .val (.long p2), .second, .val (.long p3), .second, .val (.int p4), .val (.long y0), .second, .val (.long y1), .second, .val (.long y2), .second, .val (.long y3), .second, .val (.int m0), .val (.int m1), .val (.int m2), .val (.int m3), .val (.ref b68), .val (.long r0), .second, .val (.long r1), .second, .val (.long r2), .second, .val (.long r3), .second, .val (.int z30), .val (.int z31), .val (.int z32), .unset, .unset] [(.int (if r1 < r3 ∨ (r1 = r3 ∧ (1 : Int32) < (3 : Int32)) then (1 : Int32) else 0)), (.int (if r0 < r3 ∨ (r0 = r3 ∧ (0 : Int32) < (3 : Int32)) then (1 : Int32) else 0))]
  refine k_iadd (pc' := 308) C P91 at_307 rfl ?_
  refine k_lload (pc' := 310) C P91 at_308 rfl rfl ?_
  refine k_iconst (z := (2 : Int32)) (pc' := 311) C P91 at_310 rfl rfl ?_
  refine k_lload (pc' := 313) C P91 at_311 rfl rfl ?_
  refine k_iconst (z := (3 : Int32)) (pc' := 314) C P91 at_313 rfl rfl ?_
  refine k_callT (pc' := 317) (cells' := 1) (slots' := 4) (W := 1) C P91 (C.w 9 rfl) (C.w 10 rfl) (C.w 11 rfl) (C.w 3 rfl) (by decide) (rmBef l Z a0 hw _ n0 P91.size r2 (2 : Int32) r3 (3 : Int32)) [(.long r2), (.int (2 : Int32)), (.long r3), (.int (3 : Int32))] [(.int ((if r0 < r3 ∨ (r0 = r3 ∧ (0 : Int32) < (3 : Int32)) then (1 : Int32) else 0) + (if r1 < r3 ∨ (r1 = r3 ∧ (1 : Int32) < (3 : Int32)) then (1 : Int32) else 0)))] rfl (lenOf pd_3 rfl) rfl (Nat.le_of_eq rfl) at_314 rfl (by decide) (by decide) rfl rfl (by decide) (by decide) all0 rfl ?_
  intro T92 h92 v92 P92 K92 Q92
  obtain ⟨e92, g92⟩ := Q92
  subst g92
  subst e92
  show KGo p e below _ T92 m 317 #[.val (.long p0), .second, .val (.long p1), .second, .val (.long p2), .second, .val (.long p3), .second, .val (.int p4), .val (.long y0), .second, .val (.long y1), .second, .val (.long y2), .second, .val (.long y3), .second, .val (.int m0), .val (.int m1), .val (.int m2), .val (.int m3), .val (.ref b68), .val (.long r0), .second, .val (.long r1), .second, .val (.long r2), .second, .val (.long r3), .second, .val (.int z30), .val (.int z31), .val (.int z32), .unset, .unset] [(.int (if r2 < r3 ∨ (r2 = r3 ∧ (2 : Int32) < (3 : Int32)) then (1 : Int32) else 0)), (.int ((if r0 < r3 ∨ (r0 = r3 ∧ (0 : Int32) < (3 : Int32)) then (1 : Int32) else 0) + (if r1 < r3 ∨ (r1 = r3 ∧ (1 : Int32) < (3 : Int32)) then (1 : Int32) else 0)))]
  refine k_iadd (pc' := 318) C P92 at_317 rfl ?_
  obtain ⟨z33, e_z33⟩ : ∃ z, z = (((if r0 < r3 ∨ (r0 = r3 ∧ (0 : Int32) < (3 : Int32)) then (1 : Int32) else 0) + (if r1 < r3 ∨ (r1 = r3 ∧ (1 : Int32) < (3 : Int32)) then (1 : Int32) else 0)) + (if r2 < r3 ∨ (r2 = r3 ∧ (2 : Int32) < (3 : Int32)) then (1 : Int32) else 0)) := ⟨_, rfl⟩
  rw [← e_z33]
  refine k_istore (l' := #[.val (.long p0), .second, .val (.long p1), .second, .val (.long p2), .second, .val (.long p3), .second, .val (.int p4), .val (.long y0), .second, .val (.long y1), .second, .val (.long y2), .second, .val (.long y3), .second, .val (.int m0), .val (.int m1), .val (.int m2), .val (.int m3), .val (.ref b68), .val (.long r0), .second, .val (.long r1), .second, .val (.long r2), .second, .val (.long r3), .second, .val (.int z30), .val (.int z31), .val (.int z32), .val (.int z33), .unset]) (pc' := 320) C P92 at_318 rfl rfl ?_
  refine k_aload (pc' := 322) C P92 at_320 rfl rfl rfl ?_
  refine k_callT (pc' := 325) (cells' := 6) (slots' := 277) (W := 0) C P92 (C.w 12 rfl) (C.w 13 rfl) (C.w 15 rfl) (C.w 14 rfl) (by decide) (rmAsc l Z a0 hw _ n0 P92.size b68 k68 (if m0 = 0 then FP.l2d y0 else FP.dneg (FP.l2d y0)) (if m1 = 0 then FP.l2d y1 else FP.dneg (FP.l2d y1)) (if m2 = 0 then FP.l2d y2 else FP.dneg (FP.l2d y2)) (if m3 = 0 then FP.l2d y3 else FP.dneg (FP.l2d y3)) V76 (own_knn y0 m0) (own_knn y1 m1) (own_knn y2 m2) (own_knn y3 m3)) [(.ref b68)] [] rfl (lenOf pd_4 rfl) rfl (Nat.le_of_eq rfl) at_322 rfl (by decide) (by decide) rfl rfl (by decide) (by decide) all0 rfl ?_
  intro T93 h93 v93 P93 K93 Q93
  obtain ⟨go, kg, A, O, rfl, V93_, I93⟩ := Q93
  have f93_b68 := V76.keep K93 nin0
  obtain ⟨⟨N0, hN0, lN0, eN0⟩, ⟨N1, hN1, lN1, eN1⟩, ⟨N2, hN2, lN2, eN2⟩, ⟨N3, hN3, lN3, eN3⟩⟩ := own_res hy0 hy1 hy2 hy3 h_m0 h_m1 h_m2 h_m3 e_r0 e_r1 e_r2 e_r3 I93
  show KGo p e below _ T93 m 325 #[.val (.long p0), .second, .val (.long p1), .second, .val (.long p2), .second, .val (.long p3), .second, .val (.int p4), .val (.long y0), .second, .val (.long y1), .second, .val (.long y2), .second, .val (.long y3), .second, .val (.int m0), .val (.int m1), .val (.int m2), .val (.int m3), .val (.ref b68), .val (.long r0), .second, .val (.long r1), .second, .val (.long r2), .second, .val (.long r3), .second, .val (.int z30), .val (.int z31), .val (.int z32), .val (.int z33), .unset] [(.ref go)]
  refine k_astore (l' := #[.val (.long p0), .second, .val (.long p1), .second, .val (.long p2), .second, .val (.long p3), .second, .val (.int p4), .val (.long y0), .second, .val (.long y1), .second, .val (.long y2), .second, .val (.long y3), .second, .val (.int m0), .val (.int m1), .val (.int m2), .val (.int m3), .val (.ref b68), .val (.long r0), .second, .val (.long r1), .second, .val (.long r2), .second, .val (.long r3), .second, .val (.int z30), .val (.int z31), .val (.int z32), .val (.int z33), .val (.ref go)]) (pc' := 327) C P93 at_325 rfl rfl rfl ?_
  refine k_aload (pc' := 329) C P93 at_327 rfl rfl rfl ?_
  refine k_nullN (pc' := 332) C P93 at_329 rfl ?_
  refine k_aload (pc' := 334) C P93 at_332 rfl rfl rfl ?_
  refine k_arrlen (z := (4 : Int32)) (pc' := 335) C P93 V93_ at_334 rfl rfl ?_
  refine k_iconst (z := (4 : Int32)) (pc' := 336) C P93 at_335 rfl rfl ?_
  refine k_icY (pc' := 341) C P93 at_336 (rfl : (_ : Int32) = _) (by decide) (by decide) ?_
  refine k_aload (pc' := 343) C P93 at_341 rfl rfl rfl ?_
  refine k_iload (pc' := 345) C P93 at_343 rfl rfl ?_
  refine k_iaload (J := N0) (v := (.int (Int32.ofNat 0))) (pc' := 346) C P93 V93_ at_345 (by rw [e_z30]; exact hN0) lN0 (congrArg Value.int eN0) rfl ?_
  refine k_ifN (pc' := 349) C P93 at_346 (rfl : (_ : Int32) = _) rfl ?_
  refine k_aload (pc' := 351) C P93 at_349 rfl rfl rfl ?_
  refine k_iload (pc' := 353) C P93 at_351 rfl rfl ?_
  refine k_iaload (J := N1) (v := (.int (Int32.ofNat 1))) (pc' := 354) C P93 V93_ at_353 (by rw [e_z31]; exact hN1) lN1 (congrArg Value.int eN1) rfl ?_
  refine k_iconst (z := (1 : Int32)) (pc' := 355) C P93 at_354 rfl rfl ?_
  refine k_icN (pc' := 358) C P93 at_355 (rfl : (_ : Int32) = _) rfl ?_
  refine k_aload (pc' := 360) C P93 at_358 rfl rfl rfl ?_
  refine k_iload (pc' := 362) C P93 at_360 rfl rfl ?_
  refine k_iaload (J := N2) (v := (.int (Int32.ofNat 2))) (pc' := 363) C P93 V93_ at_362 (by rw [e_z32]; exact hN2) lN2 (congrArg Value.int eN2) rfl ?_
  refine k_iconst (z := (2 : Int32)) (pc' := 364) C P93 at_363 rfl rfl ?_
  refine k_icN (pc' := 367) C P93 at_364 (rfl : (_ : Int32) = _) rfl ?_
  refine k_aload (pc' := 369) C P93 at_367 rfl rfl rfl ?_
  refine k_iload (pc' := 371) C P93 at_369 rfl rfl ?_
  refine k_iaload (J := N3) (v := (.int (Int32.ofNat 3))) (pc' := 372) C P93 V93_ at_371 (by rw [e_z33]; exact hN3) lN3 (congrArg Value.int eN3) rfl ?_
  refine k_iconst (z := (3 : Int32)) (pc' := 373) C P93 at_372 rfl rfl ?_
  refine k_icN (pc' := 376) C P93 at_373 (rfl : (_ : Int32) = _) rfl ?_
  refine k_iconst (z := (1 : Int32)) (pc' := 377) C P93 at_376 rfl rfl ?_
  refine k_goto (pc' := 381) C P93 at_377 (by decide) (by decide) ?_
  exact k_retZ (z' := (1 : Int32)) C P93 (by simp) at_381 rfl (by decide) (by decide) rfl
set_option maxRecDepth 65536 in
set_option maxHeartbeats 40000000 in
theorem comes_1 {Post : Tables → Env → Array Value → State → Outcome → State → Prop} (hpost : ∀ tb e args s v u, (limb_1_1.after args s (.returned v) u = true ∧ limb_1_2.after args s (.returned v) u = true ∧ True) → FrameEnd s (.returned v) u (Jvm.fieldLocs frame_1_writes args s ++ Jvm.arrayLocs frame_1_arrays args s ++ Jvm.staticLocs frame_1_statics s) 24 640 → Post tb e args s (.returned v) u) :
    ArmFor flags0 classFile x code maxLocals ret World_1 tables_1 room_1 Calls_1 rest_1 Pre_1 Post := by
  intro l hfl _ _ p e ha hc hk s m args below hf hA hF happ hP
  obtain ⟨hcalls, hrest, hpre⟩ := hP
  obtain ⟨-, -, -, hnamed, -, -, -, hat⟩ := (Spec.applies_iff hf).mp happ
  obtain ⟨hg, hn⟩ := and_e (Cond.before_iff.mp (show (Jvm.Cond.and given_1 narrow_1).before args s = true from hpre))
  obtain ⟨g0, g1⟩ := and_e hg
  obtain ⟨a0, g2⟩ := and_e g1
  obtain ⟨a1, g3⟩ := and_e g2
  obtain ⟨a2, g4⟩ := and_e g3
  obtain ⟨a3, g5⟩ := and_e g4
  have a4 := g5
  obtain ⟨w0, w1, w2, w3, w4, rfl⟩ : ∃ w0 w1 w2 w3 w4 : Value, args = #[w0, w1, w2, w3, w4] := by
    have hs : args.size = 5 := by simpa [Cond.value, given_1] using g0
    obtain ⟨L⟩ := args
    match L, hs with
    | [w0, w1, w2, w3, w4], _ => exact ⟨w0, w1, w2, w3, w4, rfl⟩
  have hw := fun d (hd : d ∈ tables_1) => atoms_spec (ws := Jvm.Cond.code x code maxLocals ret :: tables_1) hat d (List.mem_cons_of_mem _ hd)
  have hfit : Fit s := fun {y c} hc i hi => by
    obtain ⟨ha, rfl⟩ := Array.getElem?_eq_some_iff.mp hc
    have q := List.all_eq_true.mp ((Array.all_eq_true_iff_forall_mem.mp hF) _ (Array.getElem_mem ha)) i (List.mem_range.mpr hi)
    simpa [Array.getElem?_eq_getElem hi] using q
  obtain ⟨i0, ei0⟩ := isL_v a0
  obtain rfl : w0 = (.long i0) := Option.some.inj ei0
  obtain ⟨i1, ei1⟩ := isL_v a1
  obtain rfl : w1 = (.long i1) := Option.some.inj ei1
  obtain ⟨i2, ei2⟩ := isL_v a2
  obtain rfl : w2 = (.long i2) := Option.some.inj ei2
  obtain ⟨i3, ei3⟩ := isL_v a3
  obtain rfl : w3 = (.long i3) := Option.some.inj ei3
  obtain ⟨i4, ei4⟩ := is_v a4
  obtain rfl : w4 = (.int i4) := Option.some.inj ei4
  obtain ⟨n, o, h1, h2, h3, _, L, rfl, ⟨N, _, rfl⟩, hq0⟩ := (rm0 l s _ hw s.heap s.heap.size (Nat.le_refl _) i0 i1 i2 i3 i4 ) tables_1 p e ha hc hk s m _ below hf ((Spec.applies_iff_loose hf).mp happ).1 ⟨rfl, State.Warmed39.refl s, rfl⟩ trivial
  have hq : FrameEnd _ _ _ _ _ _ := hq0
  refine ⟨n, _, h1, h2, h3, hpost _ _ _ _ _ _ ⟨Cond.after_iff.mpr rfl, Cond.after_iff.mpr (eq_i res_at (Term.int_eval (1)) rfl), trivial⟩ ⟨hq.1, hq.2.1, (hq.2.2.sift fun y hy => Or.inr (N y hy)).mono (by decide) (by decide)⟩⟩
theorem main_1_1 : Claimed_1_1 := comes_1 fun _ _ _ _ _ _ h hF => ⟨h.1, hF⟩
theorem main_1_2 : Claimed_1_2 := comes_1 fun _ _ _ _ _ _ h hF => ⟨h.2.1, hF⟩
end Jvm.Pilot.@@N@@
namespace Jvm.Pilot.@@N@@
open Jvm Jvm.ClassFile Sem Op Lib Jvm.Free Jvm.Stand Jvm.Pilot.@@N@@.Jvm.D
/-! MADE BY PROGRAM (witnessworld.py) out of the Statement's table words and the real class files: 19 classes; the members and pool entries that the words name. The judged class is class 1, her method 1. -/
namespace start1
open Jvm.ClassFile
def u (s : String) : CpInfo := .utf8 (stringToUtf16 s)
/-- a pool by its gaps: so many unusable entries, then the entry; so many at the end -/
def gap : Nat → List CpInfo → List CpInfo
  | 0, r => r
  | n + 1, r => .unusable :: gap n r
def poolList (es : List (Nat × CpInfo)) (last : Nat) : List CpInfo := es.foldr (fun e r => gap e.1 (e.2 :: r)) (gap last [])
def pool (es : List (Nat × CpInfo)) (last : Nat) : Array CpInfo := ⟨poolList es last⟩
def fileOf (pool : Array CpInfo) (this : Nat) (attrs : Array Attribute := #[]) (ms : Array MethodInfo := #[]) (fl : Nat := 33) (sup : Nat := 0) (ifs : Array Nat := #[]) (fds : Array FieldInfo := #[]) : ClassFile where
  minorVersion := 0
  majorVersion := 65
  constantPool := pool
  accessFlags := fl
  thisClass := this
  superClass := sup
  interfaces := ifs
  fields := fds
  methods := ms
  attributes := attrs
def plain (name : String) (sup : Option ClassId) : Class where
  name := name
  kind := .ordinary
  loader := none
  accessFlags := 33
  super := sup
  interfaces := #[]
  cf := none
  fields := #[]
  methods := #[]
  instanceTypes := #[]
  staticTypes := #[]
  resolved := #[]
  callSites := []
  init := .initialized
  statics := none
  mirror := none

def pool0 : Array CpInfo := pool [(5, u "<init>"), (0, u "()V"), (1, .class_ 10), (1, u "java/lang/Object")] 113

def k0m0 : Method := { name := "<init>", desc := "()V", sig := { parameters := [], returnType := none }, accessFlags := 1, code := none }
/-- java/lang/Object -/
def k0 : Class := { plain "java/lang/Object" none with
  accessFlags := 33
  interfaces := #[]
  cf := some (fileOf pool0 8 #[] #[{ accessFlags := 1, nameIndex := 5, descriptorIndex := 6, attributes := #[] }] 33 0 #[] #[])
  fields := #[]
  methods := #[k0m0]
  instanceTypes := #[]
  staticTypes := #[]
  resolved := Array.replicate 124 none
  statics := none }

def pool1 : Array CpInfo := pool [(2, .class_ 4), (1, u "java/lang/Object"), (0, u "<init>"), (0, u "()V"), (0, .methodref 8 9), (0, .class_ 10), (0, .nameAndType 11 12), (0, u "com/example/pactline/pactline/model/SortingAscendingPinLaw"), (0, u "key"), (0, u "(JZ)D"), (0, .methodref 8 14), (0, .nameAndType 15 16), (0, u "code"), (0, u "(JZ)J"), (0, .methodref 8 18), (0, .nameAndType 19 20), (0, u "before"), (0, u "(JIJI)I"), (0, .methodref 22 23), (0, .class_ 24), (0, .nameAndType 25 26), (0, u "com/example/pactline/pactline/model/Sorting"), (0, u "ascending"), (0, u "([D)[I"), (0, .long 2), (3, u "law"), (0, u "(JJJJI)Z")] 7

def k1m0 : Method := { name := "<init>", desc := "()V", sig := { parameters := [], returnType := none }, accessFlags := 2, code := none }
def k1c1 : Code := { maxStack := 7, maxLocals := 35, code := code, exceptionTable := #[], attributes := #[] }
def k1m1 : Method := { name := "law", desc := "(JJJJI)Z", sig := { parameters := [.long, .long, .long, .long, .int], returnType := some .boolean }, accessFlags := 9, code := some k1c1 }
def k1c2 : Code := { maxStack := 2, maxLocals := 5, code := method_3_code, exceptionTable := #[], attributes := #[] }
def k1m2 : Method := { name := "key", desc := "(JZ)D", sig := { parameters := [.long, .boolean], returnType := some .double }, accessFlags := 10, code := some k1c2 }
def k1c3 : Code := { maxStack := 4, maxLocals := 3, code := method_4_code, exceptionTable := #[], attributes := #[] }
def k1m3 : Method := { name := "code", desc := "(JZ)J", sig := { parameters := [.long, .boolean], returnType := some .long }, accessFlags := 10, code := some k1c3 }
def k1c4 : Code := { maxStack := 4, maxLocals := 6, code := method_5_code, exceptionTable := #[], attributes := #[] }
def k1m4 : Method := { name := "before", desc := "(JIJI)I", sig := { parameters := [.long, .int, .long, .int], returnType := some .int }, accessFlags := 10, code := some k1c4 }
/-- com/example/pactline/pactline/model/SortingAscendingPinLaw -/
def k1 : Class := { plain "com/example/pactline/pactline/model/SortingAscendingPinLaw" (some 0) with
  accessFlags := 49
  interfaces := #[]
  cf := some (fileOf pool1 8 #[] #[{ accessFlags := 2, nameIndex := 5, descriptorIndex := 6, attributes := #[] }, { accessFlags := 9, nameIndex := 31, descriptorIndex := 32, attributes := #[] }, { accessFlags := 10, nameIndex := 11, descriptorIndex := 12, attributes := #[] }, { accessFlags := 10, nameIndex := 15, descriptorIndex := 16, attributes := #[] }, { accessFlags := 10, nameIndex := 19, descriptorIndex := 20, attributes := #[] }] 49 2 #[] #[])
  fields := #[]
  methods := #[k1m0, k1m1, k1m2, k1m3, k1m4]
  instanceTypes := #[]
  staticTypes := #[]
  resolved := Array.replicate 40 none
  statics := none }

def pool2 : Array CpInfo := pool [(4, .class_ 6), (1, u "java/lang/Object"), (0, u "<init>"), (0, u "()V"), (1, .class_ 12), (1, u "com/example/pactline/pactline/model/Sorting"), (0, u "NOT_A_NUMBER"), (0, u "J"), (0, .methodref 16 17), (0, .class_ 18), (0, .nameAndType 19 20), (0, u "java/lang/Double"), (0, u "doubleToRawLongBits"), (0, u "(D)J"), (2, .long 9223372036854775808), (1, .long 255), (1, .methodref 28 29), (0, .class_ 30), (0, .nameAndType 31 32), (0, u "java/util/Arrays"), (0, u "fill"), (0, u "([II)V"), (5, u "DIGITS"), (0, u "I"), (4, u "ascending"), (0, u "([D)[I")] 10

def k2m0 : Method := { name := "<init>", desc := "()V", sig := { parameters := [], returnType := none }, accessFlags := 2, code := none }
def k2c1 : Code := { maxStack := 8, maxLocals := 15, code := prog_70_method_2_code, exceptionTable := #[], attributes := #[] }
def k2m1 : Method := { name := "ascending", desc := "([D)[I", sig := { parameters := [(.array .double)], returnType := some (.array .int) }, accessFlags := 9, code := some k2c1 }
/-- com/example/pactline/pactline/model/Sorting -/
def k2 : Class := { plain "com/example/pactline/pactline/model/Sorting" (some 0) with
  accessFlags := 49
  interfaces := #[]
  cf := some (fileOf pool2 10 #[] #[{ accessFlags := 2, nameIndex := 7, descriptorIndex := 8, attributes := #[] }, { accessFlags := 9, nameIndex := 44, descriptorIndex := 45, attributes := #[] }] 49 4 #[] #[{ accessFlags := 26, nameIndex := 38, descriptorIndex := 39, attributes := #[] }, { accessFlags := 26, nameIndex := 13, descriptorIndex := 14, attributes := #[] }])
  fields := #[{ name := "DIGITS", type := .int, accessFlags := 26, slot := 0, constantValue := 0 }, { name := "NOT_A_NUMBER", type := .long, accessFlags := 26, slot := 1, constantValue := 0 }]
  methods := #[k2m0, k2m1]
  instanceTypes := #[]
  staticTypes := #[.int, .long]
  resolved := Array.replicate 56 none
  statics := none }

def pool3 : Array CpInfo := pool [(1, .class_ 2), (0, u "java/io/Serializable"), (0, .class_ 4), (0, u "java/lang/Object")] 2

/-- java/io/Serializable -/
def k3 : Class := { plain "java/io/Serializable" (some 0) with
  accessFlags := 1537
  interfaces := #[]
  cf := some (fileOf pool3 1 #[] #[] 1537 3 #[] #[])
  fields := #[]
  methods := #[]
  instanceTypes := #[]
  staticTypes := #[]
  resolved := Array.replicate 7 none
  statics := none }

def pool4 : Array CpInfo := pool [(2, .class_ 4), (1, u "java/lang/Object"), (0, u "<init>"), (0, u "()V"), (1, .class_ 10), (1, u "java/lang/Number"), (2, .class_ 14), (0, u "java/io/Serializable"), (0, u "serialVersionUID"), (0, u "J")] 20

def k4m0 : Method := { name := "<init>", desc := "()V", sig := { parameters := [], returnType := none }, accessFlags := 1, code := none }
/-- java/lang/Number -/
def k4 : Class := { plain "java/lang/Number" (some 0) with
  accessFlags := 1057
  interfaces := #[3]
  cf := some (fileOf pool4 8 #[] #[{ accessFlags := 1, nameIndex := 5, descriptorIndex := 6, attributes := #[] }] 1057 2 #[13] #[{ accessFlags := 26, nameIndex := 15, descriptorIndex := 16, attributes := #[] }])
  fields := #[{ name := "serialVersionUID", type := .long, accessFlags := 26, slot := 0, constantValue := 0 }]
  methods := #[k4m0]
  instanceTypes := #[]
  staticTypes := #[.long]
  resolved := Array.replicate 37 none
  statics := none }

def pool5 : Array CpInfo := pool [(1, .class_ 2), (0, u "java/lang/Comparable"), (0, .class_ 4), (0, u "java/lang/Object")] 7

/-- java/lang/Comparable -/
def k5 : Class := { plain "java/lang/Comparable" (some 0) with
  accessFlags := 1537
  interfaces := #[]
  cf := some (fileOf pool5 1 #[] #[] 1537 3 #[] #[])
  fields := #[]
  methods := #[]
  instanceTypes := #[]
  staticTypes := #[]
  resolved := Array.replicate 12 none
  statics := none }

def pool6 : Array CpInfo := pool [(1, .class_ 2), (0, u "java/lang/constant/Constable"), (0, .class_ 4), (0, u "java/lang/Object")] 6

/-- java/lang/constant/Constable -/
def k6 : Class := { plain "java/lang/constant/Constable" (some 0) with
  accessFlags := 1537
  interfaces := #[]
  cf := some (fileOf pool6 1 #[] #[] 1537 3 #[] #[])
  fields := #[]
  methods := #[]
  instanceTypes := #[]
  staticTypes := #[]
  resolved := Array.replicate 11 none
  statics := none }

def pool7 : Array CpInfo := pool [(1, .class_ 2), (0, u "java/lang/constant/ConstantDesc"), (0, .class_ 4), (0, u "java/lang/Object")] 32

/-- java/lang/constant/ConstantDesc -/
def k7 : Class := { plain "java/lang/constant/ConstantDesc" (some 0) with
  accessFlags := 1537
  interfaces := #[]
  cf := some (fileOf pool7 1 #[] #[] 1537 3 #[] #[])
  fields := #[]
  methods := #[]
  instanceTypes := #[]
  staticTypes := #[]
  resolved := Array.replicate 37 none
  statics := none }

def pool8 : Array CpInfo := pool [(1, .class_ 2), (0, u "java/lang/Double"), (46, u "(D)J"), (64, .class_ 116), (1, u "java/lang/Number"), (3, u "value"), (0, u "D"), (14, u "doubleToRawLongBits"), (36, u "TYPE"), (0, u "Ljava/lang/Class;"), (0, .class_ 176), (0, u "java/lang/Comparable"), (0, .class_ 178), (0, u "java/lang/constant/Constable"), (0, .class_ 180), (0, u "java/lang/constant/ConstantDesc"), (0, u "POSITIVE_INFINITY"), (3, u "NEGATIVE_INFINITY"), (2, u "NaN"), (2, u "MAX_VALUE"), (0, u "MIN_NORMAL"), (0, u "MIN_VALUE"), (2, u "SIZE"), (0, u "I"), (1, u "PRECISION"), (1, u "MAX_EXPONENT"), (1, u "MIN_EXPONENT"), (1, u "BYTES"), (3, u "serialVersionUID"), (0, u "J")] 79

def k8m0 : Method := { name := "doubleToRawLongBits", desc := "(D)J", sig := { parameters := [.double], returnType := some .long }, accessFlags := 265, code := none }
/-- java/lang/Double -/
def k8 : Class := { plain "java/lang/Double" (some 4) with
  accessFlags := 49
  interfaces := #[5, 6, 7]
  cf := some (fileOf pool8 1 #[] #[{ accessFlags := 265, nameIndex := 136, descriptorIndex := 49, attributes := #[] }] 49 114 #[175, 177, 179] #[{ accessFlags := 25, nameIndex := 181, descriptorIndex := 121, attributes := #[] }, { accessFlags := 25, nameIndex := 185, descriptorIndex := 121, attributes := #[] }, { accessFlags := 25, nameIndex := 188, descriptorIndex := 121, attributes := #[] }, { accessFlags := 25, nameIndex := 191, descriptorIndex := 121, attributes := #[] }, { accessFlags := 25, nameIndex := 192, descriptorIndex := 121, attributes := #[] }, { accessFlags := 25, nameIndex := 193, descriptorIndex := 121, attributes := #[] }, { accessFlags := 25, nameIndex := 196, descriptorIndex := 197, attributes := #[] }, { accessFlags := 25, nameIndex := 199, descriptorIndex := 197, attributes := #[] }, { accessFlags := 25, nameIndex := 201, descriptorIndex := 197, attributes := #[] }, { accessFlags := 25, nameIndex := 203, descriptorIndex := 197, attributes := #[] }, { accessFlags := 25, nameIndex := 205, descriptorIndex := 197, attributes := #[] }, { accessFlags := 25, nameIndex := 173, descriptorIndex := 174, attributes := #[] }, { accessFlags := 18, nameIndex := 120, descriptorIndex := 121, attributes := #[] }, { accessFlags := 26, nameIndex := 209, descriptorIndex := 210, attributes := #[] }])
  fields := #[{ name := "POSITIVE_INFINITY", type := .double, accessFlags := 25, slot := 0, constantValue := 0 }, { name := "NEGATIVE_INFINITY", type := .double, accessFlags := 25, slot := 1, constantValue := 0 }, { name := "NaN", type := .double, accessFlags := 25, slot := 2, constantValue := 0 }, { name := "MAX_VALUE", type := .double, accessFlags := 25, slot := 3, constantValue := 0 }, { name := "MIN_NORMAL", type := .double, accessFlags := 25, slot := 4, constantValue := 0 }, { name := "MIN_VALUE", type := .double, accessFlags := 25, slot := 5, constantValue := 0 }, { name := "SIZE", type := .int, accessFlags := 25, slot := 6, constantValue := 0 }, { name := "PRECISION", type := .int, accessFlags := 25, slot := 7, constantValue := 0 }, { name := "MAX_EXPONENT", type := .int, accessFlags := 25, slot := 8, constantValue := 0 }, { name := "MIN_EXPONENT", type := .int, accessFlags := 25, slot := 9, constantValue := 0 }, { name := "BYTES", type := .int, accessFlags := 25, slot := 10, constantValue := 0 }, { name := "TYPE", type := (.object "java/lang/Class"), accessFlags := 25, slot := 11, constantValue := 0 }, { name := "value", type := .double, accessFlags := 18, slot := 0, constantValue := 0 }, { name := "serialVersionUID", type := .long, accessFlags := 26, slot := 12, constantValue := 0 }]
  methods := #[k8m0]
  instanceTypes := #[.double]
  staticTypes := #[.double, .double, .double, .double, .double, .double, .int, .int, .int, .int, .int, (.object "java/lang/Class"), .long]
  resolved := Array.replicate 290 none
  statics := none }

def pool9 : Array CpInfo := pool [(2, .class_ 4), (1, u "java/lang/Object"), (0, u "<init>"), (0, u "()V"), (7, .class_ 16), (1, u "java/util/Arrays"), (57, .class_ 76), (1, u "java/util/Arrays$NaturalOrder"), (36, .class_ 115), (1, u "java/util/Arrays$LegacyMergeSort"), (1, u "Z"), (257, .class_ 376), (0, u "java/util/Arrays$ArrayList"), (68, u "$assertionsDisabled"), (269, u "MIN_ARRAY_SORT_GRAN"), (0, u "I"), (2, u "INSERTIONSORT_THRESHOLD"), (120, u "fill"), (4, u "([II)V"), (129, .class_ 976), (0, u "java/util/Arrays$ArrayItr")] 52

def k9m0 : Method := { name := "<init>", desc := "()V", sig := { parameters := [], returnType := none }, accessFlags := 2, code := none }
def k9c1 : Code := { maxStack := 3, maxLocals := 4, code := jdk_65_method_103_code, exceptionTable := #[], attributes := #[] }
def k9m1 : Method := { name := "fill", desc := "([II)V", sig := { parameters := [(.array .int), .int], returnType := none }, accessFlags := 9, code := some k9c1 }
/-- java/util/Arrays -/
def k9 : Class := { plain "java/util/Arrays" (some 0) with
  accessFlags := 49
  interfaces := #[]
  cf := some (fileOf pool9 14 #[.nestMembers #[975, 375, 113, 74]] #[{ accessFlags := 2, nameIndex := 5, descriptorIndex := 6, attributes := #[] }, { accessFlags := 9, nameIndex := 840, descriptorIndex := 845, attributes := #[] }] 49 2 #[] #[{ accessFlags := 26, nameIndex := 715, descriptorIndex := 716, attributes := #[] }, { accessFlags := 26, nameIndex := 719, descriptorIndex := 716, attributes := #[] }, { accessFlags := 4120, nameIndex := 445, descriptorIndex := 117, attributes := #[] }])
  fields := #[{ name := "MIN_ARRAY_SORT_GRAN", type := .int, accessFlags := 26, slot := 0, constantValue := 0 }, { name := "INSERTIONSORT_THRESHOLD", type := .int, accessFlags := 26, slot := 1, constantValue := 0 }, { name := "$assertionsDisabled", type := .boolean, accessFlags := 4120, slot := 2, constantValue := 0 }]
  methods := #[k9m0, k9m1]
  instanceTypes := #[]
  staticTypes := #[.int, .int, .boolean]
  resolved := Array.replicate 1029 none
  statics := none }

def pool10 : Array CpInfo := pool [(1, u "java/lang/Cloneable"), (0, .class_ 1), (0, u "java/lang/Object"), (0, .class_ 3)] 3

/-- java/lang/Cloneable -/
def k10 : Class := { plain "java/lang/Cloneable" (some 0) with
  accessFlags := 1537
  interfaces := #[]
  cf := some (fileOf pool10 2 #[] #[] 1537 4 #[] #[])
  fields := #[]
  methods := #[]
  instanceTypes := #[]
  staticTypes := #[]
  resolved := Array.replicate 8 none
  statics := none }

/-- the primitive byte -/
def k11 : Class := { plain "byte" none with kind := .primitive 'B', accessFlags := 0x411 }
/-- [B -/
def k12 : Class := { plain "[B" (some 0) with kind := .array 11 .byte, interfaces := #[10, 3], accessFlags := 1041 }

/-- the primitive double -/
def k13 : Class := { plain "double" none with kind := .primitive 'D', accessFlags := 0x411 }
/-- [D -/
def k14 : Class := { plain "[D" (some 0) with kind := .array 13 .double, interfaces := #[10, 3], accessFlags := 1041 }

/-- the primitive int -/
def k15 : Class := { plain "int" none with kind := .primitive 'I', accessFlags := 0x411 }
/-- [I -/
def k16 : Class := { plain "[I" (some 0) with kind := .array 15 .int, interfaces := #[10, 3], accessFlags := 1041 }

/-- the primitive long -/
def k17 : Class := { plain "long" none with kind := .primitive 'J', accessFlags := 0x411 }
/-- [J -/
def k18 : Class := { plain "[J" (some 0) with kind := .array 17 .long, interfaces := #[10, 3], accessFlags := 1041 }

def heap : Heap := #[]
def classes : Array Class := #[k0, k1, k2, k3, k4, k5, k6, k7, k8, k9, k10, k11, k12, k13, k14, k15, k16, k17, k18]
def interned : List (Array UInt16 × Addr) := []
def slotsUsed : Nat := 0
def theMethod : MethodId := ⟨1, 1⟩
def args0 : Array Value := #[.long 5, .long 3, .long 7, .long 2, .int 11]
def aboutOver (below : List Frame) : State where
  vm := { classes := classes, interned := interned.toArray }
  heap := heap
  slotsUsed := slotsUsed
  threads := #[{ frames := .invoking theMethod args0 :: below }]
def below0 : List Frame := [.native { method := ⟨0, 0⟩, args := #[] }]
def about1 : State := aboutOver below0
def p0 : Program := .bare "" "" ""
def e0 : Env := launch0.env 0 0 0
theorem w_frames : about1.frames = Frame.invoking theMethod args0 :: below0 := rfl
set_option maxRecDepth 65536 in
theorem w_args : argsFit about1.vm theMethod args0 = true := by decide +kernel
set_option maxRecDepth 65536 in
theorem w_heap : heapFits about1 = true := by decide +kernel
set_option maxRecDepth 65536 in
theorem w_runnable : about1.curStatus? = some .runnable := by decide +kernel
set_option maxRecDepth 65536 in
theorem w_alone : about1.alone = true := by decide +kernel
set_option maxRecDepth 65536 in
theorem w_named : about1.methodNamed? x = some theMethod := by decide +kernel
set_option maxRecDepth 65536 in
theorem w_hears : about1.hears theMethod below0 = true := by decide +kernel
set_option maxRecDepth 65536 in
theorem w_ripe : about1.ripe theMethod args0 below0 = true := by decide +kernel
theorem w_running : about1.status = .running := rfl
set_option maxRecDepth 65536 in
theorem w_room : about1.hasRoom e0.platform room_1 = true :=
  launch0.hasRoom_least _ room_1 (by decide +kernel) (by decide +kernel) (by decide +kernel) (by decide +kernel) (by decide +kernel) (by decide +kernel)
theorem allAtoms_all (ts : List Jvm.Cond) (a : Array Jvm.Value) (st : Jvm.State) : (allAtoms ts).before a st = ts.all (fun c => c.before a st) := by
  induction ts with
  | nil => rfl
  | cons c t ih =>
    show (Jvm.Cond.and c (allAtoms t)).before a st = _
    rw [Jvm.Cond.before_and, ih, List.all_cons]
def words1 : List Jvm.Cond := Jvm.Cond.code x code maxLocals ret :: tables_1
/-- a 'code' word, met by the world's own term for the bytes: nothing is compared byte by byte -/
theorem code_word {y : MethodName} {bytes : ByteArray} {mx : Nat} {rt : Option FieldType} {a : Array Value} {s : State} {m : MethodId} {meth : Method} {c : Code} (h1 : s.methodNamed? y = some m) (h2 : s.vm.method? m = some meth) (h3 : meth.code = some c) (h4 : c.code = bytes)
    (h5 : (c.maxLocals == mx && c.exceptionTable.isEmpty && decide (c.maxStack ≤ mostOperands) && decide (meth.sig.returnType = rt) && !meth.locks && decide (parseMethodDescriptor y.desc = some meth.sig)) = true) : (Jvm.Cond.code y bytes mx rt).before a s = true := by
  simp only [Bool.and_eq_true, beq_iff_eq, Bool.not_eq_true', decide_eq_true_eq] at h5
  obtain ⟨⟨⟨⟨⟨g1, g2⟩, g3⟩, g4⟩, g5⟩, g6⟩ := h5
  simp [Cond.before, Cond.holds, Cond.value, h1, h2, h3, h4, g1, g2, g3, g4, g5, g6]
def isCode : Jvm.Cond → Bool
  | .code _ _ _ _ => true
  | _ => false
theorem all_split {L : List Jvm.Cond} {P : Jvm.Cond → Bool} (h1 : L.all (fun c => isCode c || P c) = true) (h2 : ∀ c ∈ L.filter isCode, P c = true) : L.all P = true := by
  refine List.all_eq_true.mpr fun c hc => ?_
  have h := List.all_eq_true.mp h1 c hc
  rcases Bool.eq_false_or_eq_true (isCode c) with hi | hi
  · exact h2 c (List.mem_filter.mpr ⟨hc, hi⟩)
  · simpa [hi] using h
set_option maxRecDepth 65536 in
theorem w_c0 : (Jvm.Cond.code x code maxLocals ret).before args0 about1 = true := code_word (m := ⟨1, 1⟩) (meth := k1m1) (c := k1c1) (by decide +kernel) rfl rfl rfl (by decide +kernel)
set_option maxRecDepth 65536 in
theorem w_c1 : (Jvm.Cond.code ({ cls := "com/example/pactline/pactline/model/SortingAscendingPinLaw", name := "key", desc := "(JZ)D" } : Jvm.MethodName) method_3_code (5 : Nat) (Option.some Jvm.ClassFile.FieldType.double)).before args0 about1 = true := code_word (m := ⟨1, 2⟩) (meth := k1m2) (c := k1c2) (by decide +kernel) rfl rfl rfl (by decide +kernel)
set_option maxRecDepth 65536 in
theorem w_c2 : (Jvm.Cond.code ({ cls := "com/example/pactline/pactline/model/SortingAscendingPinLaw", name := "code", desc := "(JZ)J" } : Jvm.MethodName) method_4_code (3 : Nat) (Option.some Jvm.ClassFile.FieldType.long)).before args0 about1 = true := code_word (m := ⟨1, 3⟩) (meth := k1m3) (c := k1c3) (by decide +kernel) rfl rfl rfl (by decide +kernel)
set_option maxRecDepth 65536 in
theorem w_c3 : (Jvm.Cond.code ({ cls := "com/example/pactline/pactline/model/SortingAscendingPinLaw", name := "before", desc := "(JIJI)I" } : Jvm.MethodName) method_5_code (6 : Nat) (Option.some Jvm.ClassFile.FieldType.int)).before args0 about1 = true := code_word (m := ⟨1, 4⟩) (meth := k1m4) (c := k1c4) (by decide +kernel) rfl rfl rfl (by decide +kernel)
set_option maxRecDepth 65536 in
theorem w_c4 : (Jvm.Cond.code ({ cls := "com/example/pactline/pactline/model/Sorting", name := "ascending", desc := "([D)[I" } : Jvm.MethodName) prog_70_method_2_code (15 : Nat) (Option.some (Jvm.ClassFile.FieldType.array Jvm.ClassFile.FieldType.int))).before args0 about1 = true := code_word (m := ⟨2, 1⟩) (meth := k2m1) (c := k2c1) (by decide +kernel) rfl rfl rfl (by decide +kernel)
set_option maxRecDepth 65536 in
theorem w_c5 : (Jvm.Cond.code ({ cls := "java/util/Arrays", name := "fill", desc := "([II)V" } : Jvm.MethodName) jdk_65_method_103_code (4 : Nat) (Option.none : Option Jvm.ClassFile.FieldType)).before args0 about1 = true := code_word (m := ⟨9, 1⟩) (meth := k9m1) (c := k9c1) (by decide +kernel) rfl rfl rfl (by decide +kernel)
def codes1 : List Jvm.Cond := [Jvm.Cond.code x code maxLocals ret, Jvm.Cond.code ({ cls := "com/example/pactline/pactline/model/SortingAscendingPinLaw", name := "key", desc := "(JZ)D" } : Jvm.MethodName) method_3_code (5 : Nat) (Option.some Jvm.ClassFile.FieldType.double), Jvm.Cond.code ({ cls := "com/example/pactline/pactline/model/SortingAscendingPinLaw", name := "code", desc := "(JZ)J" } : Jvm.MethodName) method_4_code (3 : Nat) (Option.some Jvm.ClassFile.FieldType.long), Jvm.Cond.code ({ cls := "com/example/pactline/pactline/model/SortingAscendingPinLaw", name := "before", desc := "(JIJI)I" } : Jvm.MethodName) method_5_code (6 : Nat) (Option.some Jvm.ClassFile.FieldType.int), Jvm.Cond.code ({ cls := "com/example/pactline/pactline/model/Sorting", name := "ascending", desc := "([D)[I" } : Jvm.MethodName) prog_70_method_2_code (15 : Nat) (Option.some (Jvm.ClassFile.FieldType.array Jvm.ClassFile.FieldType.int)), Jvm.Cond.code ({ cls := "java/util/Arrays", name := "fill", desc := "([II)V" } : Jvm.MethodName) jdk_65_method_103_code (4 : Nat) (Option.none : Option Jvm.ClassFile.FieldType)]
set_option maxRecDepth 65536 in
theorem codes_eq : words1.filter isCode = codes1 := rfl
theorem w_codes : ∀ c ∈ words1.filter isCode, c.before args0 about1 = true := by
  rw [codes_eq]
  intro c hc
  simp only [codes1, List.mem_cons, List.not_mem_nil, or_false] at hc
  rcases hc with rfl | rfl | rfl | rfl | rfl | rfl
  · exact w_c0
  · exact w_c1
  · exact w_c2
  · exact w_c3
  · exact w_c4
  · exact w_c5
set_option maxRecDepth 65536 in
theorem w_t1 : (words1.take 24).all (fun c => isCode c || c.before args0 about1) = true := by decide +kernel
set_option maxRecDepth 65536 in
theorem w_t2 : (words1.drop 24).all (fun c => isCode c || c.before args0 about1) = true := by decide +kernel
theorem w_tables : (allAtoms (Jvm.Cond.code x code maxLocals ret :: tables_1)).before args0 about1 = true := by
  rw [allAtoms_all]
  show words1.all (fun c => c.before args0 about1) = true
  refine all_split ?_ w_codes
  rw [← List.take_append_drop 24 words1, List.all_append, w_t1, w_t2]
  rfl
set_option maxRecDepth 65536 in
theorem w_case : (Jvm.Cond.and given_1 narrow_1).before args0 about1 = true := by decide +kernel
theorem w_applies : (headSpec (Jvm.Cond.code x code maxLocals ret :: tables_1) room_1).applies x e0.platform about1 = true :=
  (Spec.applies_iff w_frames).mpr ⟨w_running, w_runnable, w_alone, w_named, w_hears, w_ripe, w_room, w_tables⟩
theorem atStart : AtStart classFile x code maxLocals ret World_1 tables_1 room_1 Calls_1 rest_1 Pre_1 launch0 p0 e0 about1 theMethod args0 below0 :=
  ⟨lists_1, trivial, launch0.admits_env _ _ _, launch0.least_env, fairChoices_fair.cas, fairChoices_fair.clock, w_frames, w_args, w_heap, w_applies, trivial, trivial, w_case⟩
end start1
theorem witness_1 : WitnessClaimed_1 := ⟨start1.p0, start1.e0, start1.about1, start1.theMethod, start1.args0, start1.below0, start1.atStart⟩
end Jvm.Pilot.@@N@@
