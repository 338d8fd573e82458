import Derived.Test.Qxb6002353aPause
namespace Go.Proofs.Qxb6002353a
open Go.RowKit Go.Maps

theorem info9 : (Try.prog.info? 9).map (fun i => (i.zero, i.size, i.bytes)) = some (some (.string ByteArray.empty), 1, 16) := by kernel_rfl

/-- a recorder, its parts named -/
structure RecX (S : Nat → Prop) (w : World) (rb : Nat) (iv fv : Value) (bad : Bool) (xi : List ByteArray) (xf : List UInt8) : Prop where
  row : w.rowIs rb 38 3 (fun i => if i = 0 then iv else if i = 1 then .bool bad else fv)
  iown : w.ownsRow 0 9 1 iv xi.length (xi.map Value.string)
  fown : w.ownsRow 0 9 1 fv xf.length (xf.map fun u => .string (idb u))
  iS : ∀ g, iv.ownBlock = some g → S g
  fS : ∀ g, fv.ownBlock = some g → S g
  dif : iv.ownBlock = none ∨ iv.ownBlock ≠ fv.ownBlock

theorem RecIs.open {S : Nat → Prop} {w : World} {rb c : Nat} {Dd : UInt8 → Prop} (h : RecIs S w rb Dd c) : ∃ iv fv bad xi xf, RecX S w rb iv fv bad xi xf ∧ xi.length ≤ c ∧ xf.length ≤ c ∧ ∀ u ∈ xf, Dd u := by
  obtain ⟨iv, fv, bad, xi, xf, h1, h2, h3, h4, h5, h6, h7, h8, h9⟩ := h
  exact ⟨iv, fv, bad, xi, xf, ⟨h1, h2, h3, h7, h8, h9⟩, h4, h5, h6⟩
theorem RecX.shut {S : Nat → Prop} {w : World} {rb c : Nat} {iv fv : Value} {bad : Bool} {xi : List ByteArray} {xf : List UInt8} {Dd : UInt8 → Prop} (h : RecX S w rb iv fv bad xi xf) (h4 : xi.length ≤ c) (h5 : xf.length ≤ c) (h6 : ∀ u ∈ xf, Dd u) : RecIs S w rb Dd c :=
  ⟨iv, fv, bad, xi, xf, h.row, h.iown, h.fown, h4, h5, h6, h.iS, h.fS, h.dif⟩

/-- what the recorder's own steps touch: the recorder, and rows of strings -/
def TR (S : Nat → Prop) (w : World) (rb : Nat) : Nat → Prop := fun b => b = rb ∨ (S b ∧ tag w b = 10)

/-- a slice that the call owns, its elements of one cell -/
theorem own_at {w : World} {e n : Nat} {v : Value} {xs : List Value} (h : w.ownsRow 0 e 1 v n xs) : ∃ (p : Option Addr) (cp : Nat), v = .slice p n cp ∧ (0 < n → ∃ g, p = some ⟨g, 0, none⟩) ∧
    ∀ g, p = some ⟨g, 0, none⟩ → v.ownBlock = some g ∧ ∀ i, (hi : i < xs.length) → w.cell? ⟨g, i, none⟩ = some xs[i] ∧ w.frozen? ⟨g, i, none⟩ = false := by
  obtain ⟨hl, h⟩ := h
  rcases h with ⟨rfl, rfl⟩ | ⟨g, cap, cur, rfl, _, hb, hn, hc, hs, ht⟩
  · exact ⟨none, 0, rfl, fun h => by omega, fun g h => by cases h⟩
  · refine ⟨some ⟨g, 0, none⟩, cap, rfl, fun _ => ⟨g, rfl⟩, fun g' e => ?_⟩
    cases e
    refine ⟨rfl, fun i hi => ⟨?_, by simp [World.frozen?, hb]⟩⟩
    have : xs[i]? = some xs[i] := List.getElem?_eq_getElem hi
    generalize xs[i] = y at this ⊢
    rw [← ht, List.getElem?_take] at this
    split at this
    · simp only [World.cell?, hb]
      simpa using this
    · cases this

/-- one element of such a slice is turned -/
theorem own_set {w : World} {e g n : Nat} {v x : Value} {xs : List Value} (h : w.ownsRow 0 e 1 v n xs) (hg : v.ownBlock = some g) {i : Nat} (hi : i < n) : (w.setCell ⟨g, i, none⟩ x).ownsRow 0 e 1 v n (xs.set i x) := by
  obtain ⟨hl, h⟩ := h
  refine ⟨by simpa using hl, ?_⟩
  rcases h with ⟨rfl, rfl⟩ | ⟨g', cap, cur, rfl, h0, hb, hn, hc, hs, ht⟩
  · simp [Value.ownBlock] at hg
  · simp only [Value.ownBlock, Option.some.injEq] at hg
    subst hg
    refine .inr ⟨g', cap, cur.setIfInBounds i x, rfl, h0, ?_, hn, hc, by simpa using hs, ?_⟩
    · simp [World.setCell, Array.getElem?_modify, hb]
    · rw [Array.toList_setIfInBounds, ← ht, List.take_set]

theorem own_off {w : World} {e n : Nat} {v x : Value} {xs : List Value} (h : w.ownsRow 0 e 1 v n xs) {a : Addr} (hg : v.ownBlock ≠ some a.block) : (w.setCell a x).ownsRow 0 e 1 v n xs :=
  h.kept (grownBy_setCell w a x) (.inr hg)

section
variable {S : Nat → Prop} {w w1 : World} {rb : Nat} {iv fv v' : Value} {bad : Bool} {xi : List ByteArray} {xf : List UInt8} {o : Obj}

theorem RecX.rb_i (h : RecX S w rb iv fv bad xi xf) : iv.ownBlock ≠ some rb := fun e => by
  have h1 := tag_own h.iown e; have h2 := tag_row h.row; rw [h1] at h2; cases h2
theorem RecX.rb_f (h : RecX S w rb iv fv bad xi xf) : fv.ownBlock ≠ some rb := fun e => by
  have h1 := tag_own h.fown e; have h2 := tag_row h.row; rw [h1] at h2; cases h2

theorem RecX.keptF (h : RecX S w rb iv fv bad xi xf) (hg : (w.alloc o).grownBy w1 fv.ownBlock) : w1.rowIs rb 38 3 (fun i => if i = 0 then iv else if i = 1 then .bool bad else fv) := rowIs_kept (World.rowIs.alloc h.row o) hg (fun e => h.rb_f e.symm)
theorem RecX.keptI (h : RecX S w rb iv fv bad xi xf) (hg : (w.alloc o).grownBy w1 iv.ownBlock) : w1.rowIs rb 38 3 (fun i => if i = 0 then iv else if i = 1 then .bool bad else fv) := rowIs_kept (World.rowIs.alloc h.row o) hg (fun e => h.rb_i e.symm)

theorem RecX.appF (h : RecX S w rb iv fv bad xi xf) (u : UInt8) (hg : (w.alloc o).grownBy w1 fv.ownBlock) (hown : w1.ownsRow 0 9 1 v' (xf.length + 1) (xf.map (fun u => .string (idb u)) ++ [.string (idb u)])) (hloc : v'.ownBlock = fv.ownBlock ∨ v'.ownBlock = some (w.alloc o).heap.size) :
    RecX (grow S w (w1.setCell ⟨rb, 2, none⟩ v')) (w1.setCell ⟨rb, 2, none⟩ v') rb iv v' bad xi (xf ++ [u]) := by
  have hsz : w.heap.size + 1 ≤ w1.heap.size := by have := hg.size; simpa using this
  have hsz2 : (w1.setCell ⟨rb, 2, none⟩ v').heap.size = w1.heap.size := by simp [World.setCell]
  have hrl := World.rowIs.lt h.row
  have r1 : w1.rowIs rb 38 3 (fun i => if i = 0 then iv else if i = 1 then .bool bad else fv) := rowIs_kept (World.rowIs.alloc h.row o) hg (fun e => h.rb_f e.symm)
  have hv : v'.ownBlock ≠ some rb := fun e => by
    have h1 := tag_own hown e; have h2 := tag_row r1; rw [h1] at h2; cases h2
  have i1 : w1.ownsRow 0 9 1 iv xi.length (xi.map Value.string) := (h.iown.alloc o).kept hg h.dif
  refine ⟨World.rowIs.congr (World.rowIs.set r1 2 v') (fun i hi => ?_), own_off i1 h.rb_i, ?_, fun g hg => .inl (h.iS g hg), ?_, ?_⟩
  · by_cases e : i = 2
    · subst e; simp
    · have : i = 0 ∨ i = 1 := by omega
      rcases this with rfl | rfl <;> simp
  · have := own_off hown (a := ⟨rb, 2, none⟩) (x := v') hv
    simpa using this
  · intro g hgv
    rcases hloc with e | e
    · exact .inl (h.fS g (e ▸ hgv))
    · rw [hgv] at e
      simp only [Option.some.injEq] at e
      refine .inr ⟨by simp at e; omega, ?_⟩
      rw [hsz2]
      exact (hown.lt g hgv).2
  · cases hi : iv.ownBlock with
    | none => exact .inl rfl
    | some g =>
      refine .inr (fun e => ?_)
      rcases hloc with e' | e'
      · rcases h.dif with d | d
        · rw [hi] at d; cases d
        · exact d (by rw [hi, e, e'])
      · rw [e'] at e
        have := (h.iown.lt g hi).2
        simp at e
        omega

theorem RecX.appI (h : RecX S w rb iv fv bad xi xf) (s : ByteArray) (hg : (w.alloc o).grownBy w1 iv.ownBlock) (hown : w1.ownsRow 0 9 1 v' (xi.length + 1) (xi.map Value.string ++ [.string s])) (hloc : v'.ownBlock = iv.ownBlock ∨ v'.ownBlock = some (w.alloc o).heap.size) :
    RecX (grow S w (w1.setCell ⟨rb, 0, none⟩ v')) (w1.setCell ⟨rb, 0, none⟩ v') rb v' fv bad (xi ++ [s]) xf := by
  have hsz : w.heap.size + 1 ≤ w1.heap.size := by have := hg.size; simpa using this
  have hsz2 : (w1.setCell ⟨rb, 0, none⟩ v').heap.size = w1.heap.size := by simp [World.setCell]
  have hrl := World.rowIs.lt h.row
  have r1 : w1.rowIs rb 38 3 (fun i => if i = 0 then iv else if i = 1 then .bool bad else fv) := rowIs_kept (World.rowIs.alloc h.row o) hg (fun e => h.rb_i e.symm)
  have hv : v'.ownBlock ≠ some rb := fun e => by
    have h1 := tag_own hown e; have h2 := tag_row r1; rw [h1] at h2; cases h2
  have hdif : fv.ownBlock = none ∨ fv.ownBlock ≠ iv.ownBlock := by
    cases hf : fv.ownBlock with
    | none => exact .inl rfl
    | some g =>
      refine .inr (fun e => ?_)
      rcases h.dif with d | d
      · rw [d] at e; cases e
      · exact d (by rw [hf, e])
  have f1 : w1.ownsRow 0 9 1 fv xf.length (xf.map fun u => .string (idb u)) := (h.fown.alloc o).kept hg hdif
  refine ⟨World.rowIs.congr (World.rowIs.set r1 0 v') (fun i hi => ?_), ?_, own_off f1 h.rb_f, ?_, fun g hg => .inl (h.fS g hg), ?_⟩
  · by_cases e : i = 0
    · subst e; simp
    · simp [e]
  · have := own_off hown (a := ⟨rb, 0, none⟩) (x := v') hv
    simpa using this
  · intro g hgv
    rcases hloc with e | e
    · exact .inl (h.iS g (e ▸ hgv))
    · rw [hgv] at e
      simp only [Option.some.injEq] at e
      refine .inr ⟨by simp at e; omega, ?_⟩
      rw [hsz2]
      exact (hown.lt g hgv).2
  · cases hf : fv.ownBlock with
    | none =>
      cases hv' : v'.ownBlock with
      | none => exact .inl rfl
      | some g => exact .inr (by simp)
    | some g =>
      refine .inr (fun e => ?_)
      rcases hloc with e' | e'
      · rcases hdif with d | d
        · rw [hf] at d; cases d
        · exact d (by rw [hf, ← e, e'])
      · rw [e'] at e
        have := (h.fown.lt g hf).2
        simp at e
        omega

theorem RecX.setI (h : RecX S w rb iv fv bad xi xf) {g i : Nat} (hg : iv.ownBlock = some g) (hi : i < xi.length) (s : ByteArray) : RecX S (w.setCell ⟨g, i, none⟩ (.string s)) rb iv fv bad (xi.set i s) xf := by
  have hd : fv.ownBlock ≠ some g := fun e => by
    rcases h.dif with d | d
    · rw [hg] at d; cases d
    · exact d (by rw [hg, e])
  refine ⟨rowIs_kept h.row (grownBy_setCell w ⟨g, i, none⟩ (.string s)) (fun e => h.rb_i (by cases e; exact hg)), ?_, own_off h.fown hd, h.iS, h.fS, h.dif⟩
  have := own_set h.iown hg (x := .string s) hi
  simpa [List.map_set] using this
theorem RecX.setBad (h : RecX S w rb iv fv bad xi xf) (b : Bool) : RecX S (w.setCell ⟨rb, 1, none⟩ (.bool b)) rb iv fv b xi xf :=
  ⟨World.rowIs.congr (World.rowIs.set h.row 1 (.bool b)) (fun i hi => by
    by_cases e : i = 1
    · subst e; simp
    · simp [e]), own_off h.iown h.rb_i, own_off h.fown h.rb_f, h.iS, h.fS, h.dif⟩
theorem RecX.mono {S' : Nat → Prop} (h : RecX S w rb iv fv bad xi xf) (hS : ∀ i, S i → S' i) : RecX S' w rb iv fv bad xi xf := ⟨h.row, h.iown, h.fown, fun g hg => hS g (h.iS g hg), fun g hg => hS g (h.fS g hg), h.dif⟩
end

/-- behind the recorder's step -/
def OnPost (S : Nat → Prop) (w : World) (rb : Nat) (Dd : UInt8 → Prop) (c : Nat) (e : Ending) (w' : World) : Prop :=
  e = .returned (.tuple #[]) ∧ RecIs (grow S w w') w' rb Dd (c + 1) ∧ Touch (TR S w rb) w w'

/-- a recorder that has been touched, since w -/
def RT (S : Nat → Prop) (w w' : World) (rb : Nat) (iv fv : Value) (bad : Bool) (xi : List ByteArray) (xf : List UInt8) : Prop := RecX (grow S w w') w' rb iv fv bad xi xf ∧ Touch (TR S w rb) w w' ∧ ∀ g, iv.ownBlock = some g → grow (TR S w rb) w w' g

theorem RT.setI {S : Nat → Prop} {w w' : World} {rb : Nat} {iv fv : Value} {bad : Bool} {xi : List ByteArray} {xf : List UInt8} (h : RT S w w' rb iv fv bad xi xf) {g i : Nat} (hg : iv.ownBlock = some g) (hi : i < xi.length) (s : ByteArray) : RT S w (w'.setCell ⟨g, i, none⟩ (.string s)) rb iv fv bad (xi.set i s) xf := by
  have e : (w'.setCell ⟨g, i, none⟩ (.string s)).heap.size = w'.heap.size := by simp [World.setCell]
  refine ⟨RecX.mono (h.1.setI hg hi s) (fun i hi => grow_mono (by omega) hi), h.2.1.setCell (h.2.2 g hg) _, fun g' hg' => grow_mono (by omega) (h.2.2 g' hg')⟩
theorem RT.drew {S : Nat → Prop} {w w' : World} {rb : Nat} {iv fv : Value} {bad : Bool} {xi : List ByteArray} {xf : List UInt8} (h : RT S w w' rb iv fv bad xi xf) : RT S w w'.drew rb iv fv bad xi xf := ⟨⟨h.1.row, h.1.iown, h.1.fown, h.1.iS, h.1.fS, h.1.dif⟩, h.2.1.drewN 1, h.2.2⟩

set_option maxHeartbeats 4000000 in
set_option maxRecDepth 100000 in
theorem on_any {S : Nat → Prop} {w : World} {rb c : Nat} {Dd : UInt8 → Prop} (h : RecIs S w rb Dd c) (u : UInt8) (hu : Dd u) (hc : c ≤ 1000000) :
    Calls Try.prog 22 #[.pointer (some ⟨rb, 0, none⟩), .string (idb u), .bool true] w (OnPost S w rb Dd c) := by
  obtain ⟨iv, fv, bad, xi, xf, hx, hi, hf, hd⟩ := h.open
  have hx0 := hx
  obtain ⟨pi, ci, eiv, hpi, hci⟩ := own_at hx.iown
  obtain ⟨pf, cf, efv, hpf, hcf⟩ := own_at hx.fown
  subst eiv
  subst efv
  have c0 : w.cell? ⟨rb, 0, none⟩ = some (.slice pi xi.length ci) := by simpa using World.rowIs.cell hx.row (i := 0) (by omega)
  have c1 : w.cell? ⟨rb, 1, none⟩ = some (.bool bad) := by simpa using World.rowIs.cell hx.row (i := 1) (by omega)
  have c2 : w.cell? ⟨rb, 2, none⟩ = some (.slice pf xf.length cf) := by simpa using World.rowIs.cell hx.row (i := 2) (by omega)
  have f0 := World.rowIs.frozen hx.row 0
  have f1 := World.rowIs.frozen hx.row 1
  have f2 := World.rowIs.frozen hx.row 2
  have hrl := World.rowIs.lt hx.row
  obtain ⟨i9, hi9, hz0, hz1, hz2⟩ := info_parts info9
  have HX : Hid (RecX S w rb (.slice pi xi.length ci) (.slice pf xf.length cf) bad xi xf) := hx
  clear hx hx0 h
  go_enter Try.func22, Try.ntmps22
  go_wp2
  go_loop [6, 7] (fun a i => ∃ (z : Int) (k : Nat), k ≤ xi.length ∧ a = .int .i64 z ∧ i = .int .i64 k) (fun _ i => xi.length - (intOf i).toNat)
  case atStart => exact ⟨-1, 0, Nat.zero_le _, rfl, rfl⟩
  case round =>
    obtain ⟨z, k, hk, rfl, rfl⟩ := hrel
    by_cases hlt : k < xi.length
    · obtain ⟨g, rfl⟩ := hpi (by omega)
      obtain ⟨_, hgc⟩ := hci g rfl
      obtain ⟨dk, _⟩ := hgc k (by simpa using hlt)
      rw [List.getElem_map] at dk
      generalize xi[k] = s at dk
      clear hgc
      go_wp2
      all_goals
        go_round
        case rel => exact ⟨_, k + 1, by omega, rfl, by go_num⟩
        case measure => simp [intOf]; omega
    · go_upto_region 7 with fail
      go_cut [36] (fun _ wd => ∃ v', RT S w wd rb (.slice pi xi.length ci) v' bad xi (xf ++ [u]))
      case first =>
        go_wp2_with (first
          | (at_builtin; refine wpList_append_own_at _ rfl _ _ 33 rfl 0 9 i9 (.string ByteArray.empty) 1 16 Try.underlying33 hi9 hz0 hz1 hz2 rfl (by decide) _ _ _ rfl (HX.out.fown.alloc _) ⟨w.heap.size, 0, none⟩ 1 1 [.string (idb u)] rfl rfl (cell_one_new _ _ _) (by simp [Value.oneCell']) (by unfold maxLen; omega) (by omega) (by simp) ?_; intro v' w1 hown hgrow hnil hloc; obtain ⟨p', c', hev, _, _⟩ := own_at hown; subst hev; have k2 := World.rowIs.cell (HX.out.keptF hgrow) (i := 2) (by omega); have k3 := World.rowIs.frozen (HX.out.keptF hgrow) 2)
          | go_in)
        go_meet
        refine ⟨_, HX.out.appF u hgrow hown hloc, ?_, fun g hg => .inl (.inr ⟨HX.out.iS g hg, tag_own HX.out.iown hg⟩)⟩
        refine Touch.setCell (Touch.grown (Touch.alloc (Touch.refl _ _) _) hgrow (fun k hk => .inl (.inr ⟨HX.out.fS k hk, tag_own HX.out.fown hk⟩))) (.inl (.inl rfl)) _
      case rest =>
        obtain ⟨v', hrt⟩ := hcut
        have hd' : ∀ x ∈ xf ++ [u], Dd x := fun x hx => by
          rcases List.mem_append.1 hx with e | e
          · exact hd x e
          · simp only [List.mem_singleton] at e; rw [e]; exact hu
        have hlf : (xf ++ [u]).length ≤ c + 1 := by simp; omega
        clear c0 c1 c2 f0 f1 f2 hcf hpf hd hf
        generalize xf ++ [u] = yf at hrt hd' hlf
        have HD : Hid (∀ x ∈ yf, Dd x) := hd'
        have HR : Hid (RT S w wc rb (.slice pi xi.length ci) v' bad xi yf) := hrt
        have hiv := own_at hrt.1.iown
        have c0 : wc.cell? ⟨rb, 0, none⟩ = some (.slice pi xi.length ci) := by simpa using World.rowIs.cell hrt.1.row (i := 0) (by omega)
        have c1 : wc.cell? ⟨rb, 1, none⟩ = some (.bool bad) := by simpa using World.rowIs.cell hrt.1.row (i := 1) (by omega)
        have f0 := World.rowIs.frozen hrt.1.row 0
        have f1 := World.rowIs.frozen hrt.1.row 1
        have hci : ∀ g, pi = some ⟨g, 0, none⟩ → (Value.slice pi xi.length ci).ownBlock = some g ∧ ∀ i, (hi : i < xi.length) → wc.cell? ⟨g, i, none⟩ = some (.string xi[i]) := by
          obtain ⟨p2, c2, e2, h2, h3⟩ := hiv
          cases e2
          intro g hg
          refine ⟨(h3 g hg).1, fun i hi => ?_⟩
          have := ((h3 g hg).2 i (by simpa using hi)).1
          rw [List.getElem_map] at this
          exact this
        have HCI : Hid (∀ g, pi = some ⟨g, 0, none⟩ → (Value.slice pi xi.length ci).ownBlock = some g ∧ ∀ i, (hi : i < xi.length) → wc.cell? ⟨g, i, none⟩ = some (.string xi[i])) := hci
        clear hrt hd' hiv hci
        by_cases tz : 0 ≤ z
        · go_wp2_with fail
          refine bodyPost_ret (results_none rfl _ _ _) rfl ?_
          refine ⟨rfl, RecX.shut (RecX.mono (HR.out.1.setBad true) (fun i hi => by simpa [grow, World.setCell] using hi)) (by omega) hlf HD.out, HR.out.2.1.setCell (.inl (.inl rfl)) _⟩
        · go_wp2_with fail
          go_loop [8, 9] (fun a i => ∃ (m k : Nat), k ≤ xi.length ∧ m ≤ xi.length ∧ a = .int .i64 m ∧ i = .int .i64 k) (fun _ i => xi.length - (intOf i).toNat)
          case atStart => exact ⟨xi.length, 0, Nat.zero_le _, Nat.le_refl _, rfl, rfl⟩
          case round =>
            obtain ⟨m, k2, hk2, hm, rfl, rfl⟩ := hrel
            by_cases hlt2 : k2 < xi.length
            · obtain ⟨g, rfl⟩ := hpi (by omega)
              have dk := (HCI.out g rfl).2 k2 hlt2
              generalize xi[k2] = s at dk
              go_upto_if 69 with fail
              cases hcmp : Op.bytesLess (idb u).toList s.toList
              · go_wp2_with fail
                go_round
                case rel => exact ⟨m, k2 + 1, by omega, hm, rfl, by go_num⟩
                case measure => simp [intOf]; omega
              · clear hk2 hm
                have hm : k2 ≤ xi.length := by omega
                go_upto_region 16 with fail
                go_cut [75] (fun _ wd => ∃ v2, RT S w wd rb v2 v' bad (xi ++ [ByteArray.empty]) yf)
                case first =>
                  go_wp2_with (first
                    | (at_builtin; refine wpList_append_own_at _ rfl _ _ 33 rfl 0 9 i9 (.string ByteArray.empty) 1 16 Try.underlying33 hi9 hz0 hz1 hz2 rfl (by decide) _ _ _ rfl (HR.out.1.iown.alloc _) ⟨wc.heap.size, 0, none⟩ 1 1 [.string ByteArray.empty] rfl rfl (cell_one_new _ _ _) (by simp [Value.oneCell']) (by unfold maxLen; omega) (by omega) (by simp) ?_; intro v2 w1 hown hgrow hnil hloc; obtain ⟨p', c', hev, _, _⟩ := own_at hown; subst hev; have kk2 := World.rowIs.cell (HR.out.1.keptI hgrow) (i := 0) (by omega); have k3 := World.rowIs.frozen (HR.out.1.keptI hgrow) 0)
                    | go_in)
                  go_meet
                  have hsz1 : wc.heap.size + 1 ≤ w1.heap.size := by have := hgrow.size; simpa using this
                  refine ⟨_, RecX.mono (HR.out.1.appI ByteArray.empty hgrow hown hloc) (fun i hi => ?_), ?_, ?_⟩
                  · exact grow_trans HR.out.2.1.size (by simp [World.setCell]; omega) hi
                  · exact Touch.setCell (Touch.grown (Touch.alloc HR.out.2.1 _) hgrow (fun k hk => grow_mono (by simp) (HR.out.2.2 k hk))) (.inl (.inl rfl)) _
                  · intro g hg
                    rcases hloc with e | e
                    · rw [hg] at e
                      exact grow_mono (by simp [World.setCell]; omega) (HR.out.2.2 g e.symm)
                    · rw [hg] at e
                      simp only [Option.some.injEq] at e
                      refine .inr ⟨?_, ?_⟩
                      · have := HR.out.2.1.size
                        simp at e
                        omega
                      · have := (hown.lt g hg).2
                        simpa [World.setCell] using this
                case rest =>
                  obtain ⟨v2, hrt⟩ := hcut
                  obtain ⟨p2, c2, e2, h2, h3⟩ := own_at hrt.1.iown
                  subst e2
                  have hyl : (xi ++ [ByteArray.empty]).length = xi.length + 1 := by simp
                  obtain ⟨g2, e2⟩ := h2 (by omega)
                  subst e2
                  have hob := (h3 g2 rfl).1
                  rw [hyl] at hrt
                  generalize xi ++ [ByteArray.empty] = ys at hrt hyl h3 hob
                  have HR2 : Hid (RT S w wc rb (.slice (some ⟨g2, 0, none⟩) (xi.length + 1) c2) v' bad ys yf) := hrt
                  have HY : Hid (ys.length = xi.length + 1) := hyl
                  have c0 : wc.cell? ⟨rb, 0, none⟩ = some (.slice (some ⟨g2, 0, none⟩) (xi.length + 1) c2) := by simpa using World.rowIs.cell hrt.1.row (i := 0) (by omega)
                  clear hrt hyl h2 h3 hob HR HCI c1 f0 f1
                  go_wp2_with fail
                  go_loopw [10] (fun i wr => ∃ (k : Nat) (zs : List ByteArray), zs.length = xi.length + 1 ∧ k2 ≤ k ∧ k ≤ xi.length ∧ i = .int .i64 k ∧ RT S w wr rb (.slice (some ⟨g2, 0, none⟩) (xi.length + 1) c2) v' bad zs yf) (fun i _ => (intOf i).toNat)
                  case atStart => exact ⟨xi.length, ys, HY.out, by omega, Nat.le_refl _, by go_num, HR2.out⟩
                  case round =>
                    obtain ⟨k3, zs, hzl, hmk, hkx, rfl, hrt⟩ := hrel
                    have c0 : wr.cell? ⟨rb, 0, none⟩ = some (.slice (some ⟨g2, 0, none⟩) (xi.length + 1) c2) := by simpa using World.rowIs.cell hrt.1.row (i := 0) (by omega)
                    obtain ⟨p3, c3, e3, _, h3⟩ := own_at hrt.1.iown
                    simp only [Value.slice.injEq] at e3
                    obtain ⟨e3, _, _⟩ := e3
                    subst e3
                    have hcells : ∀ i, (hi : i < zs.length) → wr.cell? ⟨g2, i, none⟩ = some (.string zs[i]) ∧ wr.frozen? ⟨g2, i, none⟩ = false := by
                      intro i hi
                      have := (h3 g2 rfl).2 i (by simpa using hi)
                      rw [List.getElem_map] at this
                      exact this
                    have hne : g2 ≠ rb := fun e => hrt.1.rb_i (by rw [e]; rfl)
                    clear h3
                    have HR3 : Hid (RT S w wr rb (.slice (some ⟨g2, 0, none⟩) (xi.length + 1) c2) v' bad zs yf) := hrt
                    have HZ : Hid (zs.length = xi.length + 1) := hzl
                    by_cases hlt3 : k2 < k3
                    · obtain ⟨d1, g1⟩ := hcells k3 (by omega)
                      obtain ⟨d2, _⟩ := hcells (k3 - 1) (by omega)
                      generalize zs[k3] = s1 at d1
                      generalize zs[k3 - 1] = s2 at d2
                      have e31 : ((k3 : Int) - 1).toNat = k3 - 1 := by omega
                      clear hcells hrt hzl
                      go_wp2_with fail
                      go_region
                      go_wp2_with fail
                      go_roundw
                      case rel =>
                        refine ⟨k3 - 1, zs.set k3 s2, by rw [List.length_set]; exact HZ.out, by omega, by omega, by go_num, ?_⟩
                        exact RT.drew (RT.setI HR3.out rfl (i := k3) (by have := HZ.out; omega) s2)
                      case measure => simp [intOf]; omega
                    · obtain ⟨d1, g1⟩ := hcells k2 (by omega)
                      generalize zs[k2] = s1 at d1
                      clear hcells hrt hzl
                      go_wp2_with fail
                      refine bodyPost_ret (results_none rfl _ _ _) rfl ?_
                      have hfin := RT.setI HR3.out rfl (i := k2) (by have := HZ.out; omega) (idb u)
                      exact ⟨rfl, RecX.shut hfin.1 (by rw [List.length_set]; have := HZ.out; omega) hlf HD.out, hfin.2.1⟩
            · skip
              go_upto_region 16 with fail
              go_cut [75] (fun _ wd => ∃ v2, RT S w wd rb v2 v' bad (xi ++ [ByteArray.empty]) yf)
              case first =>
                go_wp2_with (first
                  | (at_builtin; refine wpList_append_own_at _ rfl _ _ 33 rfl 0 9 i9 (.string ByteArray.empty) 1 16 Try.underlying33 hi9 hz0 hz1 hz2 rfl (by decide) _ _ _ rfl (HR.out.1.iown.alloc _) ⟨wc.heap.size, 0, none⟩ 1 1 [.string ByteArray.empty] rfl rfl (cell_one_new _ _ _) (by simp [Value.oneCell']) (by unfold maxLen; omega) (by omega) (by simp) ?_; intro v2 w1 hown hgrow hnil hloc; obtain ⟨p', c', hev, _, _⟩ := own_at hown; subst hev; have k2 := World.rowIs.cell (HR.out.1.keptI hgrow) (i := 0) (by omega); have k3 := World.rowIs.frozen (HR.out.1.keptI hgrow) 0)
                  | go_in)
                go_meet
                have hsz1 : wc.heap.size + 1 ≤ w1.heap.size := by have := hgrow.size; simpa using this
                refine ⟨_, RecX.mono (HR.out.1.appI ByteArray.empty hgrow hown hloc) (fun i hi => ?_), ?_, ?_⟩
                · exact grow_trans HR.out.2.1.size (by simp [World.setCell]; omega) hi
                · exact Touch.setCell (Touch.grown (Touch.alloc HR.out.2.1 _) hgrow (fun k hk => grow_mono (by simp) (HR.out.2.2 k hk))) (.inl (.inl rfl)) _
                · intro g hg
                  rcases hloc with e | e
                  · rw [hg] at e
                    exact grow_mono (by simp [World.setCell]; omega) (HR.out.2.2 g e.symm)
                  · rw [hg] at e
                    simp only [Option.some.injEq] at e
                    refine .inr ⟨?_, ?_⟩
                    · have := HR.out.2.1.size
                      simp at e
                      omega
                    · have := (hown.lt g hg).2
                      simpa [World.setCell] using this
              case rest =>
                obtain ⟨v2, hrt⟩ := hcut
                obtain ⟨p2, c2, e2, h2, h3⟩ := own_at hrt.1.iown
                subst e2
                have hyl : (xi ++ [ByteArray.empty]).length = xi.length + 1 := by simp
                obtain ⟨g2, e2⟩ := h2 (by omega)
                subst e2
                have hob := (h3 g2 rfl).1
                rw [hyl] at hrt
                generalize xi ++ [ByteArray.empty] = ys at hrt hyl h3 hob
                have HR2 : Hid (RT S w wc rb (.slice (some ⟨g2, 0, none⟩) (xi.length + 1) c2) v' bad ys yf) := hrt
                have HY : Hid (ys.length = xi.length + 1) := hyl
                have c0 : wc.cell? ⟨rb, 0, none⟩ = some (.slice (some ⟨g2, 0, none⟩) (xi.length + 1) c2) := by simpa using World.rowIs.cell hrt.1.row (i := 0) (by omega)
                clear hrt hyl h2 h3 hob HR HCI c1 f0 f1
                go_wp2_with fail
                go_loopw [10] (fun i wr => ∃ (k : Nat) (zs : List ByteArray), zs.length = xi.length + 1 ∧ m ≤ k ∧ k ≤ xi.length ∧ i = .int .i64 k ∧ RT S w wr rb (.slice (some ⟨g2, 0, none⟩) (xi.length + 1) c2) v' bad zs yf) (fun i _ => (intOf i).toNat)
                case atStart => exact ⟨xi.length, ys, HY.out, by omega, Nat.le_refl _, by go_num, HR2.out⟩
                case round =>
                  obtain ⟨k3, zs, hzl, hmk, hkx, rfl, hrt⟩ := hrel
                  have c0 : wr.cell? ⟨rb, 0, none⟩ = some (.slice (some ⟨g2, 0, none⟩) (xi.length + 1) c2) := by simpa using World.rowIs.cell hrt.1.row (i := 0) (by omega)
                  obtain ⟨p3, c3, e3, _, h3⟩ := own_at hrt.1.iown
                  simp only [Value.slice.injEq] at e3
                  obtain ⟨e3, _, _⟩ := e3
                  subst e3
                  have hcells : ∀ i, (hi : i < zs.length) → wr.cell? ⟨g2, i, none⟩ = some (.string zs[i]) ∧ wr.frozen? ⟨g2, i, none⟩ = false := by
                    intro i hi
                    have := (h3 g2 rfl).2 i (by simpa using hi)
                    rw [List.getElem_map] at this
                    exact this
                  have hne : g2 ≠ rb := fun e => hrt.1.rb_i (by rw [e]; rfl)
                  clear h3
                  have HR3 : Hid (RT S w wr rb (.slice (some ⟨g2, 0, none⟩) (xi.length + 1) c2) v' bad zs yf) := hrt
                  have HZ : Hid (zs.length = xi.length + 1) := hzl
                  by_cases hlt3 : m < k3
                  · obtain ⟨d1, g1⟩ := hcells k3 (by omega)
                    obtain ⟨d2, _⟩ := hcells (k3 - 1) (by omega)
                    generalize zs[k3] = s1 at d1
                    generalize zs[k3 - 1] = s2 at d2
                    have e31 : ((k3 : Int) - 1).toNat = k3 - 1 := by omega
                    clear hcells hrt hzl
                    go_wp2_with fail
                    go_region
                    go_wp2_with fail
                    go_roundw
                    case rel =>
                      refine ⟨k3 - 1, zs.set k3 s2, by rw [List.length_set]; exact HZ.out, by omega, by omega, by go_num, ?_⟩
                      exact RT.drew (RT.setI HR3.out rfl (i := k3) (by have := HZ.out; omega) s2)
                    case measure => simp [intOf]; omega
                  · obtain ⟨d1, g1⟩ := hcells m (by omega)
                    generalize zs[m] = s1 at d1
                    clear hcells hrt hzl
                    go_wp2_with fail
                    refine bodyPost_ret (results_none rfl _ _ _) rfl ?_
                    have hfin := RT.setI HR3.out rfl (i := m) (by have := HZ.out; omega) (idb u)
                    exact ⟨rfl, RecX.shut hfin.1 (by rw [List.length_set]; have := HZ.out; omega) hlf HD.out, hfin.2.1⟩
end Go.Proofs.Qxb6002353a
