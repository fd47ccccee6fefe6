/-
  Steps on the way to the cards of laws.FnFetched and laws.FnFetchedWhole; the conditions of each are the hypotheses that it names. In order:
  WALKS (printed by wx.py from Ji.px): imap.ParseString.
  PLAIN: parts behind boundaries, as the reader of several parts sees them.
  WALKS (printed by wx.py from Jk.px): the next part, wherever the reader stands.
-/
import Derived.Test.YtjbbapodcngnaaaGreatDoorV14
set_option linter.all false
section
namespace Go.Proofs
open Go.Eng
instance : Enters Tryz.prog 174 := ⟨fun args w => by kernel_rfl⟩
instance : Enters Tryz.prog 175 := ⟨fun args w => by kernel_rfl⟩
instance : Enters Tryz.prog 178 := ⟨fun args w => by kernel_rfl⟩
instance : Enters Tryz.prog 180 := ⟨fun args w => by kernel_rfl⟩
instance : MethodOf Tryz.prog 95 "Len" 174 := ⟨fun v w => by kernel_rfl⟩
instance : MethodOf Tryz.prog 95 "Read" 175 := ⟨fun v w => by kernel_rfl⟩
instance : MethodOf Tryz.prog 106 "Len" 178 := ⟨fun v w => by kernel_rfl⟩
instance : MethodOf Tryz.prog 106 "Read" 180 := ⟨fun v w => by kernel_rfl⟩
instance : NilAhead Tryz.prog 106 "Read" := ⟨fun v w => by kernel_rfl⟩
instance : NilAhead Tryz.prog 95 "Read" := ⟨fun v w => by kernel_rfl⟩
instance : AsYes Tryz.prog 56 106 := ⟨fun v xT w => by kernel_rfl⟩
instance : AsYes Tryz.prog 56 95 := ⟨fun v xT w => by kernel_rfl⟩
instance : AsNo Tryz.prog 9 106 (.string (mkS [])) := ⟨fun v xT w => by kernel_rfl⟩
instance : AsNo Tryz.prog 9 95 (.string (mkS [])) := ⟨fun v xT w => by kernel_rfl⟩
instance : AsNo Tryz.prog 86 106 (.string (mkS [])) := ⟨fun v xT w => by kernel_rfl⟩
instance : AsNo Tryz.prog 86 95 (.string (mkS [])) := ⟨fun v xT w => by kernel_rfl⟩
section
variable {W w : World} {s : List SL} {L : List SL} {b hb fb sb rb db : Nat}
theorem rSlcW {f : Ev} {x y : Operand} {t E : Nat} {k : IntKind} {b off l cap : Nat} [h : SliceT Tryz.prog t E 1] (hx : opv f x = some (.slice (some ⟨b, off, none⟩) l cap)) (hy : opv f y = some (.int k (0 : Nat))) :
    Reads Tryz.prog W s f (.slice t x (some y) none none) (.slice (some ⟨b, off, none⟩) l cap) := by
  have := rSlc1 (P := Tryz.prog) (W := W) (s := s) (t := t) (i := 0) hx hy (Nat.zero_le _); rwa [slo_zero, Nat.sub_zero, Nat.sub_zero] at this
/-- (*bytes.Reader).Read, all at once -/
theorem c175f {sbk o n k : Nat} {lr : Int} {data dc out : List UInt8} (hS : St W (cel rb [.slice (some ⟨sbk, o, none⟩) n k, .int .i64 0, .int .i64 lr] 132 (0, 0) :: bys 5 sbk data :: bys 5 db dc :: s) w) (hr : RowIs data o n out) (hn0 : 0 < n) (hdl : dc.length = n) (hmy : n ≤ 100000000) :
    Calls Tryz.prog 175 #[ptr rb 0, .slice (some ⟨db, 0, none⟩) n n] w fun e w' => e = .returned (.tuple #[.int .i64 (n : Int), .nilIface]) ∧ St W (bys 5 db out :: s) w' := by
  have hle := hr.le; refine fn_calls (args := [ptr rb 0, .slice (some ⟨db, 0, none⟩) n n]) Tryz.func175 rfl rfl rfl ?_; refine Xs (Xg (XX 2 hS rfl (Xn (Xs (Xs ?_))))); refine Xd [.s, .s, .s, .s, .s, .s, .s, .s, .s, .s] mixed (by kernel_rfl) hS ?_; clear hS; intro w hS; refine XS (rMove rfl) rfl (XS (rNil rfl) rfl (XS (rField rfl) rfl (XS (rLoad rfl (by exact rfl)) rfl ?_))); refine XS (rMove rfl) rfl (XS (rNil rfl) rfl (XS (rField rfl) rfl (XS (rLoad rfl (by exact rfl)) rfl ?_))); refine XS (rLen rfl) rfl (XS (rCmp rfl rfl (cmp_geqF (by omega))) rfl ?_); refine Xn (Xf rfl (Xk (Xs (Xg (XX 1 hS rfl (XR hS (rNil rfl) rfl (XR hS (rField rfl) rfl ?_))))))); refine XN hS (dStoreL rfl rfl (by exact rfl) rfl (by first | rfl | assumption | exact erv_one)) ?_; clear hS; intro _ w hS; refine Xn (Xs ?_)
  refine Xh ([]) [.s, .s, .s, .s, .r, .s, .s, .s, .r, .s, .h, .s] mixed (by kernel_rfl) hS ?_; clear hS; intro w hS; refine XS (rMove rfl) rfl (XS (rMove rfl) rfl (XS (rNil rfl) rfl (XS (rField rfl) rfl (XT hS (rLoad rfl (by exact rfl)) rfl ?_)))); refine XS (rMove rfl) rfl (XS (rNil rfl) rfl (XS (rField rfl) rfl (XT hS (rLoad rfl (by exact rfl)) rfl ?_))); refine XS (rSlcW rfl rfl) rfl ?_; refine XH hS (dCopyT (n := n) rfl rfl (.tail (.tail .head)) (Nat.min_self n) (by omega) (by omega) rfl (.tail (.tail .head))) rfl ?_; clear hS; intro vr w hR; obtain ⟨rfl, hS⟩ := hR; refine ⟨hS.sub, ?_⟩; refine XS (rAssign rfl) rfl (Xn (Xs (Xg (XX 1 hS rfl (XR hS (rNil rfl) rfl (XR hS (rField rfl) rfl (XR hS (rLoad rfl (by exact rfl)) rfl ?_))))))); refine XX 1 hS rfl (XR hS (rAddN (m := 0) (n := n) rfl rfl (by omega) (Nat.zero_add _)) rfl ?_); refine XR hS (rNil rfl) rfl (XR hS (rField rfl) rfl ?_)
  refine XN hS (dStoreL rfl rfl (by exact rfl) rfl (by first | rfl | assumption | exact erv_one)) ?_; clear hS; intro _ w hS; refine Xn (Xr ?_); have e : dc.take 0 ++ (data.drop o).take n ++ dc.drop (0 + n) = out := by
    rw [hr.is, List.take_zero, List.nil_append, List.drop_of_length_le (by omega), List.append_nil]
  rw [e] at hS; exact X2 rfl rfl rfl ⟨rfl, hS.arr⟩
/-- (*bytes.Buffer).empty -/
theorem c185 {q : Option Addr} {l cap : Nat} {lr : Int} (hS : St W s w) [k : HasCel s b (bfC (.slice q l cap) lr) 110 (0, 0)] (hl : 0 < l) : Calls Tryz.prog 185 #[ptr b 0] w fun e w' => e = .returned (.bool false) ∧ St W s w' := by
  refine fn_calls (args := [ptr b 0]) Tryz.func185 rfl rfl rfl ?_; refine Xs (Xg (XX 1 hS rfl (Xn (Xs ?_)))); refine Xd [.s, .s, .s, .s, .s, .s, .s, .s, .s, .s, .s] mixed (by kernel_rfl) hS ?_; clear hS; intro w hS; refine XS (rMove rfl) rfl (XS (rNil rfl) rfl (XS (rField rfl) rfl (XS (rLoad rfl (by exact rfl)) rfl ?_))); refine XS (rLen rfl) rfl (XS (rMove rfl) rfl (XS (rNil rfl) rfl (XS (rField rfl) rfl (XS (rLoad rfl (by exact rfl)) rfl ?_)))); refine XS (rLeN (n := 0) rfl rfl (b := false) (decide_eq_false (by omega))) rfl ?_; refine XS (rAssign rfl) rfl (Xn (Xr ?_)); exact X1 rfl rfl ⟨rfl, hS⟩
/-- (*bytes.Buffer).Read, all at once -/
theorem c180 {n : Nat} {dc out : List UInt8} (hS : St W (bfw b out :: bys 5 db dc :: s) w) (hn0 : 0 < n) (hol : out.length = n) (hdl : dc.length = n) (hmy : n ≤ 100000000) :
    Calls Tryz.prog 180 #[ptr b 0, .slice (some ⟨db, 0, none⟩) n n] w fun e w' => e = .returned (.tuple #[.int .i64 (n : Int), .nilIface]) ∧ St W (bys 5 db out :: s) w' := by
  rcases St.bfw_cases hS with ⟨_, h, _⟩ | ⟨b', jk, lr, hj, hS1⟩
  · subst h; simp at hol; omega
  · clear hS; have hS := hS1; clear hS1; rw [hol] at hS; obtain ⟨cap, hcap⟩ : ∃ cap, cap = (out ++ jk).length := ⟨_, rfl⟩; rw [← hcap] at hS; have hl : (out ++ jk).length = out.length + jk.length := List.length_append; refine fn_calls (args := [ptr b 0, .slice (some ⟨db, 0, none⟩) n n]) Tryz.func180 rfl rfl rfl ?_; refine Xs (Xg (XX 2 hS rfl (Xn (Xs (Xg (XX 1 hS rfl (XR hS (rNil rfl) rfl (XR hS (rField rfl) rfl ?_)))))))); refine XN hS (dStoreL rfl rfl (by exact rfl) rfl (by first | rfl | assumption | exact erv_one)) ?_; clear hS; intro _ w hS; refine Xn (Xs (Xs ?_)); replace hS := (show St W (cel b (bfC (.slice (some ⟨b', 0, none⟩) n cap) 0) 110 (0, 0) :: bys 5 b' (out ++ jk) :: bys 5 db dc :: s) w from hS); refine Xg (XX 1 hS rfl ?_); refine XC hS (gCall rfl) rfl (c185 (q := some ⟨b', 0, none⟩) (l := n) (cap := cap) (lr := 0) hS hn0) ?_; clear hS; intro e w hR
    (try dsimp only [bfp, BS.cells, oint, List.length_nil, List.length_cons, List.nil_append] at hR); obtain ⟨rfl, hS⟩ := hR; refine ⟨_, rfl, ?_⟩; refine Xn (Xf rfl (Xk (Xs ?_))); refine Xh ([]) [.s, .s, .s, .s, .r, .s, .s, .s, .r, .s, .h, .s] mixed (by kernel_rfl) hS ?_; clear hS; intro w hS; refine XS (rMove rfl) rfl (XS (rMove rfl) rfl (XS (rNil rfl) rfl (XS (rField rfl) rfl (XT hS (rLoad rfl (by exact rfl)) rfl ?_)))); refine XS (rMove rfl) rfl (XS (rNil rfl) rfl (XS (rField rfl) rfl (XT hS (rLoad rfl (by exact rfl)) rfl ?_))); refine XS (rSlcW rfl rfl) rfl ?_; refine XH hS (dCopyT (n := n) rfl rfl (.tail (.tail .head)) (Nat.min_self n) (by omega) (by omega) rfl (.tail (.tail .head))) rfl ?_; clear hS; intro vr w hR; obtain ⟨rfl, hS⟩ := hR; refine ⟨hS.sub, ?_⟩
    refine XS (rAssign rfl) rfl (Xn (Xs (Xg (XX 1 hS rfl (XR hS (rNil rfl) rfl (XR hS (rField rfl) rfl (XR hS (rLoad rfl (by exact rfl)) rfl ?_))))))); refine XX 1 hS rfl (XR hS (rAddN (m := 0) (n := n) rfl rfl (by omega) (Nat.zero_add _)) rfl ?_); refine XR hS (rNil rfl) rfl (XR hS (rField rfl) rfl ?_); refine XN hS (dStoreL rfl rfl (by exact rfl) rfl (by first | rfl | assumption | exact erv_one)) ?_; clear hS; intro _ w hS; refine Xn (Xs (Xs (Xg (XX 1 hS rfl (XR hS (rCmp rfl rfl (cmp_gtrT (by omega))) rfl ?_))))); refine Xn (Xt rfl (Xg (XX 1 hS rfl (XR hS (rNil rfl) rfl (XR hS (rField rfl) rfl ?_))))); refine XN hS (dStoreL rfl rfl (by exact rfl) rfl (by first | rfl | assumption | exact erv_one)) ?_; clear hS; intro _ w hS; refine Xn (Xs (Xg (XX 3 hS rfl (Xn (Xr ?_))))); have e : dc.take 0 ++ ((out ++ jk).drop 0).take n ++ dc.drop (0 + n) = out := by
      rw [List.drop_zero, ← hol, List.take_left, List.take_zero, List.nil_append, List.drop_of_length_le (by omega), List.append_nil]
    rw [e] at hS; exact X2 rfl rfl rfl ⟨rfl, hS.arr⟩
/-- io.ReadAtLeast: of nothing; all at once -/
theorem c53z {rv : Value} {q : Option Addr} {k : Nat} (hS : St W s w) : Calls Tryz.prog 53 #[rv, .slice q 0 k, .int .i64 0] w fun e w' => e = .returned (.tuple #[.int .i64 0, .nilIface]) ∧ St W s w' := by
  refine fn_calls (args := [rv, .slice q 0 k, .int .i64 0]) Tryz.func53 rfl rfl rfl ?_; refine Xs (Xg (XX 2 hS rfl (Xn (Xs (Xs (Xg (XX 1 hS rfl (XR hS (rLen rfl) rfl (XX 1 hS rfl (XR hS (rCmp rfl rfl (cmp_lssF (by omega))) rfl ?_)))))))))); refine Xn (Xf rfl (Xk (Xs (Xb ?_)))); intro a hE; refine cw_loop (fun (i : Unit) a w => Env Tryz.f53.ntmps (envL [(0, rv), (1, .slice q 0 k), (2, .int .i64 0), (6, .int .i64 0), (7, .nilIface)]) a ∧ St W s w) (fun i => 0) () ⟨hE.cut ⟨rfl, rfl, rfl, rfl, rfl, trivial⟩, hS⟩ ?_; clear hS hE a; rintro ⟨⟩ a w ⟨hE, hS⟩; revert a; refine Xs (Xs (Xg (XX 2 hS rfl (XR hS (rCmp rfl rfl (cmp_lssF (by omega))) rfl ?_)))); refine XX 4 hS rfl (Xn (Xf rfl (Xe rfl (Xs (Xs (Xg (XX 2 hS rfl (XR hS (rCmp rfl rfl (cmp_geqT (by omega))) rfl ?_)))))))); refine Xn (Xt rfl (Xg (XX 1 hS rfl (Xn (Xr ?_))))); exact X2 rfl rfl rfl ⟨rfl, hS⟩
theorem c53 {T fn n : Nat} {v : Value} {A : SL} {dc out : List UInt8} [hm : MethodOf Tryz.prog T "Read" fn] [he : Enters Tryz.prog fn] [hna : NilAhead Tryz.prog T "Read"]
    (hread : ∀ {w : World}, St W (A :: bys 5 db dc :: s) w → Calls Tryz.prog fn #[v, .slice (some ⟨db, 0, none⟩) n n] w fun e w' => e = .returned (.tuple #[.int .i64 (n : Int), .nilIface]) ∧ St W (bys 5 db out :: s) w')
    (hS : St W (A :: bys 5 db dc :: s) w) (hn0 : 0 < n) (hmy : n ≤ 100000000) :
    Calls Tryz.prog 53 #[.iface T v, .slice (some ⟨db, 0, none⟩) n n, .int .i64 (n : Int)] w fun e w' => e = .returned (.tuple #[.int .i64 (n : Int), .nilIface]) ∧ St W (bys 5 db out :: s) w' := by
  refine fn_calls (args := [.iface T v, .slice (some ⟨db, 0, none⟩) n n, .int .i64 (n : Int)]) Tryz.func53 rfl rfl rfl ?_; refine Xs (Xg (XX 2 hS rfl (Xn (Xs (Xs (Xg (XX 1 hS rfl (XR hS (rLen rfl) rfl (XX 1 hS rfl (XR hS (rCmp rfl rfl (cmp_lssF (by omega))) rfl ?_)))))))))); refine Xn (Xf rfl (Xk (Xs (Xb ?_)))); intro a hE; refine cw_loop (fun (i : Bool) a w => Env Tryz.f53.ntmps (envL [(0, .iface T v), (1, .slice (some ⟨db, 0, none⟩) n n), (2, .int .i64 (n : Int)), (6, .int .i64 ((bif i then n else 0 : Nat) : Int)), (7, .nilIface)]) a ∧ St W (bif i then bys 5 db out :: s else A :: bys 5 db dc :: s) w) (fun i => bif i then 0 else 1) false ⟨hE.cut ⟨rfl, rfl, rfl, rfl, rfl, trivial⟩, hS⟩ ?_; clear hS hE a; rintro (_ | _) a w ⟨hE, hS⟩
  · dsimp only [cond_false] at hE hS; revert a; refine Xs (Xs (Xg (XX 2 hS rfl (XR hS (rCmp rfl rfl (cmp_lssT (by omega))) rfl ?_)))); refine XX 4 hS rfl (XA rfl rfl (XR hS (rNilNil rfl) rfl (XX 1 hS rfl (Xn (Xt rfl (Xk (Xb (Xs (Xg (XX 1 hS rfl (Xn (Xs ?_)))))))))))); refine Xh ([]) [.s, .s, .s, .s, .s, .s, .s, .h, .s, .s, .s, .s, .s] mixed (by kernel_rfl) hS ?_; clear hS; intro w hS; refine XS (rMove rfl) rfl (XS (rMove rfl) rfl (XS (rMove rfl) rfl (XS (rSlcW rfl rfl) rfl (XS (rFunc rfl rfl) rfl (XS (rNilM2 rfl) rfl (XS (rMove rfl) rfl ?_)))))); refine XJ hS (gInv rfl rfl) rfl (hread hS) ?_; clear hS; intro e w hR; (try dsimp only [bfp, BS.cells, oint, List.length_nil, List.length_cons, List.nil_append] at hR); obtain ⟨rfl, hS⟩ := hR; refine ⟨_, rfl, hS.sub, ?_⟩
    refine XS (rMove rfl) rfl (XS (rExtract rfl rfl) rfl (XS (rExtract rfl rfl) rfl (XS (rAssign rfl) rfl (XS (rAssign rfl) rfl (Xn (Xg (XX 2 hS rfl (XR hS (rAddN (m := 0) (n := n) rfl rfl (by omega) (Nat.zero_add _)) rfl ?_)))))))); refine XX 1 hS rfl (Xn ?_); intro a hE; exact ⟨true, Nat.zero_lt_one, hE.cut ⟨rfl, rfl, rfl, rfl, rfl, trivial⟩, hS⟩
  · dsimp only [cond_true] at hE hS; revert a; refine Xs (Xs (Xg (XX 2 hS rfl (XR hS (rCmp rfl rfl (cmp_lssF (by omega))) rfl ?_)))); refine XX 4 hS rfl (Xn (Xf rfl (Xe rfl (Xs (Xs (Xg (XX 2 hS rfl (XR hS (rCmp rfl rfl (cmp_geqT (by omega))) rfl ?_)))))))); refine Xn (Xt rfl (Xg (XX 1 hS rfl (Xn (Xr ?_))))); exact X2 rfl rfl rfl ⟨rfl, hS⟩
/-- io.ReadFull -/
theorem c37z {rv : Value} {q : Option Addr} {k : Nat} (hS : St W s w) : Calls Tryz.prog 37 #[rv, .slice q 0 k] w fun e w' => e = .returned (.tuple #[.int .i64 0, .nilIface]) ∧ St W s w' := by
  refine fn_calls (args := [rv, .slice q 0 k]) Tryz.func37 rfl rfl rfl ?_; refine Xs (Xg (XX 2 hS rfl (Xn (Xs (Xg (XX 3 hS rfl (XR hS (rLen rfl) rfl ?_))))))); refine XC hS (gCall rfl) rfl (c53z hS) ?_; clear hS; intro e w hR; (try dsimp only [bfp, BS.cells, oint, List.length_nil, List.length_cons, List.nil_append] at hR); obtain ⟨rfl, hS⟩ := hR; refine ⟨_, rfl, ?_⟩; refine XR hS (rExtract rfl rfl) rfl (XR hS (rExtract rfl rfl) rfl (XX 2 hS rfl (Xn (Xr ?_)))); exact X2 rfl rfl rfl ⟨rfl, hS⟩
theorem c37 {T fn n : Nat} {v : Value} {A : SL} {dc out : List UInt8} [hm : MethodOf Tryz.prog T "Read" fn] [he : Enters Tryz.prog fn] [hna : NilAhead Tryz.prog T "Read"]
    (hread : ∀ {w : World}, St W (A :: bys 5 db dc :: s) w → Calls Tryz.prog fn #[v, .slice (some ⟨db, 0, none⟩) n n] w fun e w' => e = .returned (.tuple #[.int .i64 (n : Int), .nilIface]) ∧ St W (bys 5 db out :: s) w')
    (hS : St W (A :: bys 5 db dc :: s) w) (hn0 : 0 < n) (hmy : n ≤ 100000000) :
    Calls Tryz.prog 37 #[.iface T v, .slice (some ⟨db, 0, none⟩) n n] w fun e w' => e = .returned (.tuple #[.int .i64 (n : Int), .nilIface]) ∧ St W (bys 5 db out :: s) w' := by
  refine fn_calls (args := [.iface T v, .slice (some ⟨db, 0, none⟩) n n]) Tryz.func37 rfl rfl rfl ?_; refine Xs (Xg (XX 2 hS rfl (Xn (Xs (Xg (XX 3 hS rfl (XR hS (rLen rfl) rfl ?_))))))); refine XC hS (gCall rfl) rfl (c53 hread hS hn0 hmy) ?_; clear hS; intro e w hR; (try dsimp only [bfp, BS.cells, oint, List.length_nil, List.length_cons, List.nil_append] at hR); obtain ⟨rfl, hS⟩ := hR; refine ⟨_, rfl, ?_⟩; refine XR hS (rExtract rfl rfl) rfl (XR hS (rExtract rfl rfl) rfl (XX 2 hS rfl (Xn (Xr ?_)))); exact X2 rfl rfl rfl ⟨rfl, hS⟩
/-- imap.ParseString: of nothing; of what is read at once -/
theorem c23z {T fl : Nat} {v : Value} {A : SL} [AsNo Tryz.prog 9 T (.string (mkS []))] [AsNo Tryz.prog 86 T (.string (mkS []))] [AsYes Tryz.prog 56 T] [hm2 : MethodOf Tryz.prog T "Len" fl] [he2 : Enters Tryz.prog fl]
    (hlen : ∀ {w : World}, St W (A :: s) w → Calls Tryz.prog fl #[v] w fun e w' => e = .returned (.int .i64 0) ∧ St W (A :: s) w') (hS : St W (A :: s) w) :
    Calls Tryz.prog 23 #[.iface T v] w fun e w' => e = .returned (.tuple #[.string (mkS []), .nilIface]) ∧ St W s w' := by
  refine fn_calls (args := [.iface T v]) Tryz.func23 rfl rfl rfl ?_; refine Xs (Xg (XX 2 hS rfl (Xn (Xs (Xs (Xg (XX 1 hS rfl (XR hS (rAsNo rfl) rfl (XX 1 hS rfl (XR hS (rExtract rfl rfl) rfl (XR hS (rExtract rfl rfl) rfl (XX 2 hS rfl (Xn (Xs ?_)))))))))))))); refine Xg (XX 1 hS rfl (Xn (Xf rfl (Xk (Xs (Xs (Xg (XX 1 hS rfl (XR hS (rAsNo rfl) rfl (XX 1 hS rfl (XR hS (rExtract rfl rfl) rfl (XR hS (rExtract rfl rfl) rfl (XX 2 hS rfl (Xn ?_)))))))))))))); refine Xs (Xg (XX 1 hS rfl (Xn (Xf rfl (Xk (Xs (Xs (Xg (XX 1 hS rfl (XR hS (rAsYes rfl) rfl (XX 1 hS rfl (XR hS (rExtract rfl rfl) rfl (XR hS (rExtract rfl rfl) rfl (XX 2 hS rfl ?_)))))))))))))); refine Xn (Xs (Xg (XX 1 hS rfl (Xn (Xt rfl (Xs (Xg (XX 1 hS rfl ?_)))))))); refine XC hS (gInv rfl rfl) rfl (hlen hS) ?_; clear hS; intro e w hR; (try dsimp only [bfp, BS.cells, oint, List.length_nil, List.length_cons, List.nil_append] at hR)
  obtain ⟨rfl, hS⟩ := hR; refine ⟨_, rfl, ?_⟩; refine XD hS (dMakeB (n := 0) (c := 0) rfl rfl (by omega) (by omega)) rfl ?_; clear hS; intro vr w hR; obtain ⟨bz, rfl, hS⟩ := hR; refine XX 1 hS rfl (Xn (Xs (Xs (Xg (XX 2 hS rfl ?_))))); refine XC hS (gCall rfl) rfl (c37z hS) ?_; clear hS; intro e w hR; (try dsimp only [bfp, BS.cells, oint, List.length_nil, List.length_cons, List.nil_append] at hR); obtain ⟨rfl, hS⟩ := hR; refine ⟨_, rfl, ?_⟩; refine XX 1 hS rfl (XR hS (rExtract rfl rfl) rfl (XR hS (rExtract rfl rfl) rfl (XX 2 hS rfl (Xn (Xs (Xg (XX 1 hS rfl (XR hS (rNilNilN rfl) rfl (Xn (Xf rfl (Xk (Xs (Xg (XX 1 hS rfl ?_)))))))))))))); refine XR hS (rToStr rfl (by simp)) rfl ?_; refine XX 2 hS rfl (Xn (Xr ?_)); exact X2 rfl rfl rfl ⟨rfl, hS.tail.tail⟩
theorem c23s {T fn fl n : Nat} {v : Value} {A : SL} {out : List UInt8} [hm : MethodOf Tryz.prog T "Read" fn] [he : Enters Tryz.prog fn] [hna : NilAhead Tryz.prog T "Read"] [AsNo Tryz.prog 9 T (.string (mkS []))] [AsNo Tryz.prog 86 T (.string (mkS []))] [AsYes Tryz.prog 56 T] [hm2 : MethodOf Tryz.prog T "Len" fl] [he2 : Enters Tryz.prog fl]
    (hlen : ∀ {w : World}, St W (A :: s) w → Calls Tryz.prog fl #[v] w fun e w' => e = .returned (.int .i64 (n : Int)) ∧ St W (A :: s) w')
    (hread : ∀ {w : World} {db : Nat} {dc : List UInt8}, dc.length = n → St W (A :: bys 5 db dc :: s) w → Calls Tryz.prog fn #[v, .slice (some ⟨db, 0, none⟩) n n] w fun e w' => e = .returned (.tuple #[.int .i64 (n : Int), .nilIface]) ∧ St W (bys 5 db out :: s) w')
    (hS : St W (A :: s) w) (hn0 : 0 < n) (hmy : n ≤ 100000000) (hol : out.length = n) :
    Calls Tryz.prog 23 #[.iface T v] w fun e w' => e = .returned (.tuple #[.string (mkS out), .nilIface]) ∧ St W s w' := by
  refine fn_calls (args := [.iface T v]) Tryz.func23 rfl rfl rfl ?_; refine Xs (Xg (XX 2 hS rfl (Xn (Xs (Xs (Xg (XX 1 hS rfl (XR hS (rAsNo rfl) rfl (XX 1 hS rfl (XR hS (rExtract rfl rfl) rfl (XR hS (rExtract rfl rfl) rfl (XX 2 hS rfl (Xn (Xs ?_)))))))))))))); refine Xg (XX 1 hS rfl (Xn (Xf rfl (Xk (Xs (Xs (Xg (XX 1 hS rfl (XR hS (rAsNo rfl) rfl (XX 1 hS rfl (XR hS (rExtract rfl rfl) rfl (XR hS (rExtract rfl rfl) rfl (XX 2 hS rfl (Xn ?_)))))))))))))); refine Xs (Xg (XX 1 hS rfl (Xn (Xf rfl (Xk (Xs (Xs (Xg (XX 1 hS rfl (XR hS (rAsYes rfl) rfl (XX 1 hS rfl (XR hS (rExtract rfl rfl) rfl (XR hS (rExtract rfl rfl) rfl (XX 2 hS rfl ?_)))))))))))))); refine Xn (Xs (Xg (XX 1 hS rfl (Xn (Xt rfl (Xs (Xg (XX 1 hS rfl ?_)))))))); refine XC hS (gInv rfl rfl) rfl (hlen hS) ?_; clear hS; intro e w hR; (try dsimp only [bfp, BS.cells, oint, List.length_nil, List.length_cons, List.nil_append] at hR)
  obtain ⟨rfl, hS⟩ := hR; refine ⟨_, rfl, ?_⟩; refine XD hS (dMakeB (n := n) (c := n) rfl rfl (by omega) (by omega)) rfl ?_; clear hS; intro vr w hR; obtain ⟨bz, rfl, hS⟩ := hR; refine XX 1 hS rfl (Xn (Xs (Xs (Xg (XX 2 hS rfl ?_))))); refine XC hS (gCall rfl) rfl (c37 (A := A) (hread (db := bz) (dc := List.replicate n 0) (List.length_replicate ..)) hS.swap hn0 hmy) ?_; clear hS; intro e w hR; (try dsimp only [bfp, BS.cells, oint, List.length_nil, List.length_cons, List.nil_append] at hR); obtain ⟨rfl, hS⟩ := hR; refine ⟨_, rfl, ?_⟩; refine XX 1 hS rfl (XR hS (rExtract rfl rfl) rfl (XR hS (rExtract rfl rfl) rfl (XX 2 hS rfl (Xn (Xs (Xg (XX 1 hS rfl (XR hS (rNilNilN rfl) rfl (Xn (Xf rfl (Xk (Xs (Xg (XX 1 hS rfl ?_)))))))))))))); refine XR hS (rToStr rfl (by omega)) rfl ?_; refine XX 2 hS rfl (Xn (Xr ?_)); intro a hE; rw [List.drop_zero, ← hol, List.take_length] at hE
  exact kret2 hE rfl rfl rfl ⟨rfl, hS.tail⟩
/-- what is told: a buffer, or a reader of a row of bytes -/
def lit (T : Nat) (v : Value) (out : List UInt8) : SL := fun h => (∃ b, T = 106 ∧ v = ptr b 0 ∧ bfw b out h) ∨ (∃ (rb : Nat) (q : Option Addr) (k : Nat) (lr : Int), T = 95 ∧ v = ptr rb 0 ∧ out = [] ∧ cel rb [.slice q 0 k, .int .i64 0, .int .i64 lr] 132 (0, 0) h) ∨
  ∃ (rb sbk o k : Nat) (lr : Int) (data : List UInt8), T = 95 ∧ v = ptr rb 0 ∧ RowIs data o out.length out ∧ star (cel rb [.slice (some ⟨sbk, o, none⟩) out.length k, .int .i64 0, .int .i64 lr] 132 (0, 0)) (bys 5 sbk data) h
theorem c23 {T : Nat} {v : Value} {out : List UInt8} (hS : St W (lit T v out :: s) w) (hmy : out.length ≤ 10000000) : Calls Tryz.prog 23 #[.iface T v] w fun e w' => e = .returned (.tuple #[.string (mkS out), .nilIface]) ∧ St W s w' := by
  obtain ⟨a, k, h1, hb, hd, sa, sb⟩ := hS.sat; have mk : ∀ {A : SL}, A a → St W (A :: s) w := fun q => ⟨hS.os, hS.tape, hS.output, hS.size, a, k, q, hb, hd, sa, sb⟩; rcases h1 with ⟨b, rfl, rfl, h1⟩ | ⟨rb, q, kk, lr, rfl, rfl, rfl, h1⟩ | ⟨rb, sbk, o, kk, lr, data, rfl, rfl, h2, h1⟩
  · have hS1 := mk h1; have hlen : ∀ {w : World}, St W (bfw b out :: s) w → Calls Tryz.prog 178 #[ptr b 0] w fun e w' => e = .returned (.int .i64 (out.length : Int)) ∧ St W (bfw b out :: s) w' := fun {w} h => by
      rcases St.bfw_cases h with ⟨lr, rfl, h3⟩ | ⟨b', jk, lr, hj, h3⟩
      · exact (c178 (q := none) (l := 0) (cap := 0) (lr := lr) h3 (by omega)).mono fun e w' ⟨h4, h5⟩ => ⟨h4, St.bfw_nil h5⟩
      · exact (c178 (q := some ⟨b', 0, none⟩) (l := out.length) (lr := lr) h3 (by omega)).mono fun e w' ⟨h4, h5⟩ => ⟨h4, St.bfw_some rfl hj h5⟩
    rcases Nat.eq_zero_or_pos out.length with h0 | h0
    · have : out = [] := List.length_eq_zero_iff.1 h0; subst this; exact c23z hlen hS1
    · exact c23s (n := out.length) hlen (fun hdl h => c180 h h0 rfl hdl (by omega)) hS1 h0 (by omega) rfl
  · exact c23z (fun {w} h => c174 (sb := 0) (n := 0) (i := 0) (q := q) (k := kk) (lr := lr) h (Nat.le_refl _) (by omega)) (mk h1)
  · have hS1 := mk h1; rcases Nat.eq_zero_or_pos out.length with h0 | h0
    · have : out = [] := List.length_eq_zero_iff.1 h0; subst this; exact c23z (A := cel rb [.slice (some ⟨sbk, o, none⟩) 0 kk, .int .i64 0, .int .i64 lr] 132 (0, 0)) (fun {w} h => c174 (sb := 0) (n := 0) (i := 0) (q := some ⟨sbk, o, none⟩) (k := kk) (lr := lr) h (Nat.le_refl _) (by omega)) (St.open_star hS1).swap.tail
    · refine c23s (n := out.length) (fun {w} h => ?_) (fun hdl h => ?_) hS1 h0 (by omega) rfl
      · exact (c174 (sb := 0) (n := out.length) (i := 0) (q := some ⟨sbk, o, none⟩) (k := kk) (lr := lr) (St.open_star h) (Nat.zero_le _) (by omega)).mono fun e w' ⟨h4, h5⟩ => ⟨h4, St.shut_star h5⟩
      · exact c175f (St.open_star h) h2 h0 hdl (by omega)
end
end Go.Proofs
end
section
namespace Go.Proofs
open Go.Eng
/-- what stands behind a boundary: the end, or a part and what follows -/
def Mls.aft : List Ml → List UInt8 → Nat → List UInt8
  | [], _, _ => [45, 45, 13, 10]
  | m :: ms, pl, i => 13 :: 10 :: (hraw (m.flds (undr pl i)) ++ 13 :: 10 :: (m.cont (undr pl i) ++ 13 :: 10 :: Mls.parts ms pl (i + 1)))
theorem parts_aft (ms : List Ml) (pl : List UInt8) (i : Nat) : Mls.parts ms pl i = dash pl ++ Mls.aft ms pl i := by
  cases ms with
  | nil => rw [Mls.parts]; rfl
  | cons m ms => rw [Mls.parts]; rfl
theorem cont_kids {m : Ml} (h : m.kind = 1) (pl : List UInt8) : m.cont pl = Mls.parts m.kids pl 0 := by
  cases m with
  | mk head kind ty sub id ab way text kids =>
    have h : kind = 1 := h
    rw [Ml.cont, if_neg (by rw [h]; decide), if_neg (by rw [h]; decide)]
    rfl
theorem mls_ok_at : ∀ {ms : List Ml} {d i : Nat} {k : Ml}, Mls.Ok ms d → ms[i]? = some k → k.Ok d
  | m :: ms, d, 0, k, h, e => by rw [Mls.Ok] at h; simp at e; subst e; exact h.1
  | m :: ms, d, i + 1, k, h, e => by rw [Mls.Ok] at h; exact mls_ok_at h.2 (by simpa using e)
theorem mls_num_at : ∀ {ms : List Ml} {i : Nat} {k : Ml}, ms[i]? = some k → k.num ≤ Mls.num ms
  | m :: ms, 0, k, e => by rw [Mls.num]; simp at e; subst e; omega
  | m :: ms, i + 1, k, e => by rw [Mls.num]; have := mls_num_at (ms := ms) (i := i) (k := k) (by simpa using e); omega
theorem ml_kids_num (m : Ml) : m.num = 1 + Mls.num m.kids := by cases m; rw [Ml.num]; rfl
theorem ml_ok_kids {m : Ml} {d : Nat} (h : m.Ok d) : Mls.Ok m.kids (d - 1) ∧ 0 < d := by
  cases m; rw [Ml.Ok] at h; exact ⟨h.2.2.2.2.2.2.2.2.2, h.1⟩
theorem mls_num_len : ∀ (ms : List Ml), ms.length ≤ Mls.num ms
  | [] => Nat.zero_le _
  | m :: ms => by
    rw [Mls.num, List.length_cons]
    have := mls_num_len ms
    have := ml_kids_num m
    omega
theorem ml_kind1 {m : Ml} {d : Nat} (h : m.Ok d) (hk : m.kind = 1) : m.ty = mpT ∧ m.sub ≠ [] ∧ (∀ c ∈ m.sub, isLD c = true) ∧ m.sub.length ≤ 20 ∧ m.kids ≠ [] := by
  cases m with
  | mk head kind ty sub id ab way text kids =>
    rw [Ml.Ok] at h
    have hk : kind = 1 := hk
    obtain ⟨_, _, _, _, h4, _, _, _, h8, _⟩ := h
    rcases h8 with h8 | h8 | h8
    · rw [hk] at h8; exact absurd h8.1 (by decide)
    · exact ⟨h8.2.2.1, h8.2.2.2, h4.1, h4.2, h8.2.1⟩
    · rw [hk] at h8; exact absurd h8.1 (by decide)
theorem ctIs_flds {m : Ml} {d : Nat} (h : m.Ok d) (pl : List UInt8) : CtIs (m.flds pl) (if m.ty = [] then [] else m.ctVal pl) := by
  have := flds_ct (pl := pl) h
  by_cases ht : m.ty = []
  · rw [if_pos ht] at this ⊢; exact .inl ⟨this, rfl⟩
  · rw [if_neg ht] at this ⊢; exact .inr this
theorem ld_low {c : UInt8} (h : isLD c = true) : c.toNat < 128 ∧ isUp c = false := by
  have := isLD_n h
  refine ⟨by omega, ?_⟩
  cases hu : isUp c with
  | false => rfl
  | true => rw [isUp_iff] at hu; omega
/-- the type of what has not several parts -/
theorem ct_single {m : Ml} {d : Nat} (h : m.Ok d) (hk : m.kind ≠ 1) (pl : List UInt8) : (∀ c ∈ (if m.ty = [] then [] else m.ctVal pl), c.toNat < 128 ∧ isUp c = false) ∧ (if m.ty = [] then [] else m.ctVal pl).length ≤ 1000 ∧ hasPre (if m.ty = [] then [] else m.ctVal pl) mpW = false := by
  by_cases ht : m.ty = []
  · rw [if_pos ht]; exact ⟨fun _ h => (nomatch h), by simp, by decide⟩
  · rw [if_neg ht]
    unfold Ml.ctVal
    rw [if_neg hk]
    cases m with
    | mk head kind ty sub id ab way text kids =>
      rw [Ml.Ok] at h
      have hk : kind ≠ 1 := hk
      have ht : ty ≠ [] := ht
      obtain ⟨_, _, _, h3, h4, _, _, _, h8, _⟩ := h
      have hne : ty ≠ mpT := by
        rcases h8 with h8 | h8 | h8
        · exact h8.2.2.2.2
        · exact absurd h8.1 hk
        · exact h8.2.2.2.2
      have h3l := h3.2
      have h4l := h4.2
      refine ⟨?_, by simp [Ml.ty, Ml.sub]; omega, ?_⟩
      · intro c hc
        simp only [Ml.ty, Ml.sub, List.mem_append, List.mem_cons] at hc
        rcases hc with hc | hc | hc
        · exact ld_low (h3.1 c hc)
        · subst hc; decide
        · exact ld_low (h4.1 c hc)
      · cases hh : hasPre (ty ++ 47 :: sub) mpW with
        | false => exact hh
        | true =>
          exfalso
          obtain ⟨q, hq⟩ := hasPre_iff.1 hh
          have h47 : (47 : UInt8) ∉ ty := ld_no h3.1 (by decide)
          have h1 := idxOf_one (t := sub) h47
          have h2 := idxOf_one (d := 47) (l := mpT) (t := q) (by decide)
          rw [hq] at h1
          have e : mpW ++ q = mpT ++ 47 :: q := rfl
          rw [e, h2] at h1
          have hl : mpT.length = ty.length := Option.some.inj h1
          apply hne
          have := congrArg (fun l => l.take ty.length) hq
          simp only [List.take_left] at this
          rw [this, e, ← hl, List.take_left]
/-- the reader of several parts at a place -/
def DD (mm mb cap : Nat) (jk pl : List UInt8) (p : Nat) (hl hm cur : Value) (parts : Int) : PD :=
  ⟨p, mm, mb, hl, hm, cur, parts, .slice (some ⟨mb, 0, none⟩) 2 cap, .slice (some ⟨mb, 2, none⟩) (4 + (98 :: pl).length) (cap - 2), 4 + (98 :: pl).length, cap, cap - 2, [13, 10, 45, 45] ++ 98 :: pl ++ [45, 45] ++ jk, 13 :: 10 :: dash pl⟩
theorem DD_ok {mm mb cap : Nat} {jk pl : List UInt8} {p : Nat} {hl hm cur : Value} {parts : Int} (hcap : cap = ([13, 10, 45, 45] ++ 98 :: pl ++ [45, 45] ++ jk).length) (hpl : ∀ c ∈ pl, isLow c = true) (hpll : pl.length ≤ 20) : (DD mm mb cap jk pl p hl hm cur parts).ok := by
  have hcl : cap = 7 + pl.length + jk.length := by rw [hcap]; simp; omega
  refine ⟨⟨?_, ?_⟩, nl_is hpl, ?_, ?_, ?_, ?_⟩
  · simp [DD]; omega
  · simp only [DD, List.drop_zero]
    have : (4 + (98 :: pl).length) = ([13, 10, 45, 45] ++ 98 :: pl).length := by simp; omega
    rw [this, List.append_assoc, List.take_left]; rfl
  · simp [DD]; omega
  · simp [DD]; omega
  · simp [DD]; omega
  · simp [DD]; omega
theorem DD_ok2 {mm mb cap : Nat} {jk pl : List UInt8} {p : Nat} {hl hm cur : Value} {parts : Int} (hcap : cap = ([13, 10, 45, 45] ++ 98 :: pl ++ [45, 45] ++ jk).length) (hpll : pl.length ≤ 20) : (DD mm mb cap jk pl p hl hm cur parts).ok2 cap (cap - 2) := by
  have hcl : cap = 7 + pl.length + jk.length := by rw [hcap]; simp; omega
  refine ⟨rfl, rfl, by omega, ?_, ⟨?_, rfl⟩, ⟨?_, ?_⟩, rfl⟩
  · simp [DD]; omega
  · simp [DD]
  · simp [DD]; omega
  · simp only [DD]
    have e1 : ([13, 10, 45, 45] ++ 98 :: pl ++ [45, 45] ++ jk).drop 2 = (dash pl ++ [45, 45]) ++ jk := by simp [dash]
    have e2 : (4 + (98 :: pl).length) = (dash pl ++ [45, 45]).length := by simp [dash]; omega
    rw [e1, e2, List.take_left]; rfl
theorem DD_long {mm mb cap : Nat} {jk pl : List UInt8} {p : Nat} {hl hm cur : Value} {parts : Int} : 4 < (DD mm mb cap jk pl p hl hm cur parts).N := by simp [DD]
theorem DD_10 {mm mb cap : Nat} {jk pl : List UInt8} {p : Nat} {hl hm cur : Value} {parts : Int} (hpl : ∀ c ∈ pl, isLow c = true) : (10 : UInt8) ∉ (DD mm mb cap jk pl p hl hm cur parts).nl.drop 2 := dash13 hpl (.inr rfl)
theorem term_aft (ms : List Ml) (pl : List UInt8) (i : Nat) : ∃ x t, Mls.aft ms pl i = x :: t ∧ isTerm x = true := by
  cases ms with
  | nil => exact ⟨45, _, rfl, rfl⟩
  | cons m ms => exact ⟨13, _, rfl, rfl⟩
theorem pathTo_step {m : Ml} {n : Nat} {p : List Nat} {pl : List UInt8} (hk : m.kind = 1) : pathTo m (n :: p) pl = (match m.kids[n - 1]? with | some k => pathTo k p (undr pl (n - 1)) | none => none) := by
  rw [pathTo, if_pos hk]
  cases m.kids[n - 1]? <;> rfl
theorem pathTo_no {m : Ml} {n : Nat} {p : List Nat} {pl : List UInt8} (hk : m.kind ≠ 1) : pathTo m (n :: p) pl = none := by
  rw [pathTo, if_neg hk]
section
variable {W w : World} {s : List SL}
theorem St.bs_sub {α : Type} {A : α → SL} {l1 l2 : List α} (h : l1.Sublist l2) : ∀ {s : List SL}, St W (bs A l2 :: s) w → St W (bs A l1 :: s) w := by
  induction h with
  | slnil => exact fun h => h
  | cons a _ ih => exact fun h => ih (St.bs_open h).tail
  | cons_cons a _ ih => exact fun h => St.bs_cons (ih (St.bs_open h).swap).swap
end
end Go.Proofs
end
section
namespace Go.Proofs
open Go.Eng
section
variable {W w : World} {g : Gl W} {L : List SL}
/-- a reader of several parts that comes to the j-th part, from 1 on -/
def MRS (SS : Src W g) (b mm mb cap : Nat) (jk pl : List UInt8) (kids : List Ml) (j : Nat) (L : List SL) (w : World) : Prop :=
  (j = 1 ∧ ∃ B : BS, B.ok ∧ B.c.length = 4096 ∧ B.str = Mls.parts kids pl 0 ∧ St W (bfp SS b B (cel mm (mrC b (DD mm mb cap jk pl 0 undef undef (.pointer none) 0)) 148 (0, 0) :: bys 5 mb ([13, 10, 45, 45] ++ 98 :: pl ++ [45, 45] ++ jk) :: L)) w) ∨
  (2 ≤ j ∧ ∃ (p : Nat) (hl hm : Value) (rest : List UInt8), St W (partInv SS b (DD mm mb cap jk pl p hl hm (ptr p 0) ((j - 1 : Nat) : Int)) (Mls.aft (kids.drop (j - 1)) pl (j - 1)) rest :: old W :: L) w)
/-- the reader behind a part's header -/
abbrev mrp (SS : Src W g) (b mm mb cap : Nat) (jk pl : List UInt8) (p j : Nat) (B : BS) (v mv : Value) (Fs : List Fld) (L : List SL) : List SL :=
  bfp SS b B (own 141 1 v Fs.length (ptrs Fs.reverse) :: hmSL Fs.reverse mv :: bs fld Fs.reverse :: cel p [v, mv, ptr mm 0, .iface 198 (.agg #[ptr p 0]), .int .i64 0, .int .i64 0, .nilIface, .nilIface] 105 (0, 0) :: cel mm (mrC b (DD mm mb cap jk pl 0 undef undef (ptr p 0) (j : Int))) 148 (0, 0) :: bys 5 mb ([13, 10, 45, 45] ++ 98 :: pl ++ [45, 45] ++ jk) :: L)
variable {SS : Src W g} {b mm mb cap j : Nat} {jk pl : List UInt8} {kids : List Ml}
theorem cNextS {k : Ml} (hM : MRS SS b mm mb cap jk pl kids j L w) (hcap : cap = ([13, 10, 45, 45] ++ 98 :: pl ++ [45, 45] ++ jk).length) (hpl : ∀ c ∈ pl, isLow c = true) (hpll : pl.length ≤ 20) (hk : kids[j - 1]? = some k) (hfs : ∀ f ∈ k.flds (undr pl (j - 1)), FdOk f) (hnf : (k.flds (undr pl (j - 1))).length ≤ 12) (hj : j ≤ 1000) :
    Calls Tryz.prog 43 #[ptr mm 0] w fun e w' => ∃ (p : Nat) (B : BS) (v mv : Value) (Fs : List Fld), (e = .returned (.tuple #[ptr p 0, .nilIface]) ∧ B.ok ∧ 3000 ≤ B.c.length ∧ B.str = k.cont (undr pl (j - 1)) ++ 13 :: 10 :: Mls.parts (kids.drop j) pl j ∧ FsAre Fs (k.flds (undr pl (j - 1)))) ∧
      St W (mrp SS b mm mb cap jk pl p j B v mv Fs L) w' := by
  have hjl := (List.getElem?_eq_some_iff.1 hk).1; rcases hM with ⟨rfl, B, h1, h2, h3, hS⟩ | ⟨h2, p, hl, hm, rest, hS⟩
  · have hkids : kids = k :: kids.drop 1 := by
      cases kids with
      | nil => simp at hk
      | cons a l => simp at hk; subst hk; rfl
    have hstr : B.str = dash pl ++ 13 :: 10 :: (hraw (k.flds (undr pl 0)) ++ 13 :: 10 :: (k.cont (undr pl 0) ++ 13 :: 10 :: Mls.parts (kids.drop 1) pl 1)) := by
      rw [h3, hkids, Mls.parts]; rfl
    have := c43a (D := DD mm mb cap jk pl 0 undef undef (.pointer none) 0) hS h1 (DD_ok hcap hpl hpll) (DD_ok2 hcap hpll) DD_long (DD_10 hpl) rfl rfl hstr (fun f hf => (hfs f hf).ok) (by omega) (Nat.le_trans hnf (by decide)); refine this.mono fun e w' ⟨p, B', v, mv, Fs, ⟨q1, q2, q3, q4, q5⟩, hS'⟩ => ⟨p, B', v, mv, Fs, ⟨q1, q2, by omega, q4, q5⟩, hS'⟩
  · obtain ⟨np, rfl⟩ : ∃ np, j = np + 2 := ⟨j - 2, by omega⟩; have hdrop : kids.drop (np + 2 - 1) = k :: kids.drop (np + 2) := by
      rw [show np + 2 - 1 = np + 1 by omega] at hk hjl ⊢; rw [List.drop_eq_getElem_cons hjl]; rw [List.getElem?_eq_getElem hjl] at hk; rw [Option.some.inj hk]
    rw [hdrop, Mls.aft, show np + 2 - 1 + 1 = np + 2 by omega] at hS; have := c43b (D := DD mm mb cap jk pl p hl hm (ptr p 0) ((np + 2 - 1 : Nat) : Int)) (np := np) hS (DD_ok hcap hpl hpll) (DD_ok2 hcap hpll) DD_long (DD_10 hpl) rfl rfl (by omega) (fun f hf => (hfs f hf).ok) (by omega); refine this.mono fun e w' ⟨p', B', v, mv, Fs, ⟨q1, q2, q3, q4, q5⟩, hS'⟩ => ⟨p', B', v, mv, Fs, ⟨q1, q2, q3, q4, q5⟩, hS'⟩
theorem cNextE (hM : MRS SS b mm mb cap jk pl kids j L w) (hcap : cap = ([13, 10, 45, 45] ++ 98 :: pl ++ [45, 45] ++ jk).length) (hpl : ∀ c ∈ pl, isLow c = true) (hpll : pl.length ≤ 20) (hk : kids.drop (j - 1) = []) (hne : kids ≠ []) (hj : j ≤ 1000) :
    Calls Tryz.prog 43 #[ptr mm 0] w fun e w' => e = .returned (.tuple #[.pointer none, erv g true]) ∧ St W (old W :: L) w' := by
  rcases hM with ⟨rfl, _⟩ | ⟨h2, p, hl, hm, rest, hS⟩
  · exact absurd hk hne
  · obtain ⟨np, rfl⟩ : ∃ np, j = np + 2 := ⟨j - 2, by omega⟩; rw [hk, Mls.aft] at hS; have := c43c (D := DD mm mb cap jk pl p hl hm (ptr p 0) ((np + 2 - 1 : Nat) : Int)) (np := np) hS (DD_ok hcap hpl hpll) (DD_ok2 hcap hpll) DD_long (DD_10 hpl) rfl rfl (by omega); exact this.mono fun e w' ⟨B, ⟨q1, _, _⟩, hS'⟩ => ⟨q1, hS'.arr⟩
/-- behind a part's header stands its content -/
theorem mrp_shut {k : Ml} {p d : Nat} {B : BS} {v mv : Value} {Fs : List Fld} (hS : St W (mrp SS b mm mb cap jk pl p j B v mv Fs L) w) (hB : B.ok) (hbig : 3000 ≤ B.c.length) (hstr : B.str = k.cont (undr pl (j - 1)) ++ 13 :: 10 :: Mls.parts (kids.drop j) pl j) (hpl : ∀ c ∈ pl, isLow c = true) (hok : k.Ok d) (hd : (undr pl (j - 1)).length + d ≤ 10) (hnum : k.num ≤ 16) :
    St W (partInv SS b (DD mm mb cap jk pl p v mv (ptr p 0) (j : Int)) (Mls.aft (kids.drop j) pl j) (k.cont (undr pl (j - 1))) :: own 141 1 v Fs.length (ptrs Fs.reverse) :: hmSL Fs.reverse mv :: bs fld Fs.reverse :: old W :: L) w := by
  have hlow := undr_low hpl (j - 1); have hlen := cont_len k d _ hok hlow hd; have hln := cont_lns k d pl _ hok (below_undr pl (j - 1)) hlow hd; have hI : PInv B (DD mm mb cap jk pl p v mv (ptr p 0) (j : Int)) (k.cont (undr pl (j - 1))) (Mls.aft (kids.drop j) pl j) 0 0 false := by
    refine ⟨hB, ?_, Nat.zero_le _, Nat.zero_le _, (fun h => nomatch h), clean_of hln (term_aft _ _ _), fun _ => cleanB_of hln, by omega, hbig⟩; rw [hstr, parts_aft]; show _ = _ ++ 13 :: 10 :: dash pl ++ _; simp
  refine St.shut_part hI ?_; show St W (SS.inv B.rest :: bys 5 B.bb B.c :: cel b (B.cells SS) 171 (0, 0) :: cel p [v, mv, ptr mm 0, .iface 198 (.agg #[ptr p 0]), .int .i64 0, .int .i64 0, .nilIface, .nilIface] 105 (0, 0) :: cel mm (mrC b (DD mm mb cap jk pl 0 undef undef (ptr p 0) (j : Int))) 148 (0, 0) :: bys 5 mb ([13, 10, 45, 45] ++ 98 :: pl ++ [45, 45] ++ jk) :: own 141 1 v Fs.length (ptrs Fs.reverse) :: hmSL Fs.reverse mv :: bs fld Fs.reverse :: old W :: L) w; exact hS.arr
end
end Go.Proofs
end
