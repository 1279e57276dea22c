/- HTTPS records: what the reference says of them, and what the laws ask of the function that builds them. Written by gen_kind.py. -/
import Derived.Test.YtgkhfpkfjajdjaaDoorG9
import Derived.Test.YtgkhfpkfjajdjaaDoorG1
import Derived.Test.YtgkhfpkfjajdjaaDoorPairs
import Derived.Test.YtgkhfpkfjajdjaaDoorBokS
set_option linter.unusedVariables false
set_option linter.unusedSimpArgs false
namespace Go.Proofs.YtgkhfpkfjajdjaaDoor
open Go.RowKit
set_option maxHeartbeats 2000000
set_option maxRecDepth 100000

theorem body_HTTPS : BodyC 12 := by
  intro w x hx hk hb
  have hok := hx.ok
  refine calls_of_WC Tryd.func37 rfl Tryd.ntmps37 rfl ?_
  refine GO ?_
  refine WL_box vv ?_
  intro b1 w0 hb1 h1 g0
  have h1 : w0.heap[b1]? = some (.cells (recCells x).toArray 61 (0, 0)) := h1
  refine GO ?_
  refine WL_conv (c := low x.1.n1) vv (by rw [wrap16]; simp only [low]; omega) ?_
  refine GO ?_
  refine WL_conv (c := low x.1.n2) vv (by rw [wrap16]; simp only [low]; omega) ?_
  refine GO ?_
  refine WL_conv (c := low x.1.n3) vv (by rw [wrap16]; simp only [low]; omega) ?_
  refine WL_slice (vs := [.int .u16 (low x.1.n1), .int .u16 (low x.1.n2), .int .u16 (low x.1.n3)]) (EvL.eq ⟨rfl, vv, rfl, vv, rfl, vv, trivial⟩) (by simp) rfl (by simp [Value.cells]) rfl ?_
  intro b16 w1 hb16 h16 g1
  have h11 := g1.kept h1
  have G1 := g0.trans g1
  refine GO ?_
  rw [hk]
  refine RUN ?_
  have h16 : w1.heap[b16]? = some (.cells [.int .u16 (low x.1.n1), .int .u16 (low x.1.n2), .int .u16 (low x.1.n3)].toArray 22 (0, 0)) := h16
  refine WC_seq (WC_draws (fun w' => w'.heap[b1]? = some (.cells (recCells x).toArray 61 (0, 0)) ∧ w'.heap[b16]? = some (.cells [.int .u16 (low x.1.n1), .int .u16 (low x.1.n2), .int .u16 (low x.1.n3)].toArray 22 (0, 0))) (by kernel_rfl) (fun w1 g => ⟨g.kept h11, g.kept h16⟩) ?_)
  intro w2 g2 hS2
  refine WT 0 ?_
  refine WD_take (i := 1) rfl rfl rfl rfl (by kernel_rfl) (by assumption) (fun w' hS => by exact Y_index (i := 0) vv rfl (by decide)) ?_
  refine WT 2 ?_
  refine WT 4 ?_
  refine WT 5 ?_
  refine WT 7 ?_
  refine WT 8 ?_
  refine WD_one (c := 3) (by kernel_rfl) rfl ?_
  refine WL_fun rfl ((spec_Two w2 (low x.1.n1) (low_rng _).1 (low_rng _).2).mono ?_)
  rintro e w3 ⟨v3, rfl, a3, g3⟩
  refine ⟨_, rfl, ?_⟩
  have hS3 := And.intro (g3.kept hS2.1) (g3.kept hS2.2)
  refine WL_nil ⟨hS3, ?_⟩
  refine WD_one (c := 6) (by kernel_rfl) rfl ?_
  refine WL_fun rfl ((spec_Wire w3 _ hok.host).mono ?_)
  rintro e w4 ⟨v4, rfl, a4, g4⟩
  refine ⟨_, rfl, ?_⟩
  have hS4 := And.intro (g4.kept hS3.1) (g4.kept hS3.2)
  refine WL_nil ⟨hS4, ?_⟩
  refine WD_one (c := 9) (by kernel_rfl) rfl ?_
  have hpn := hok.pairs.1
  simp only [lim] at hpn
  have hpl : (pairsB x.1.pairs).length ≤ 140737488355328 := by
    have e : body 12 x.1 = two (low x.1.n1) ++ wire x.1.host ++ pairsB x.1.pairs := rfl
    rw [e] at hb
    simp only [List.length_append] at hb
    omega
  refine WL_fun rfl ((spec_pairs w4 _ _ (hx.pairs.grow (((G1.trans g2).trans g3).trans g4)) hpl (by omega) (fun p hp => (hok.pairs.2 p hp).1)).mono ?_)
  rintro e w5 ⟨v5, rfl, a5, g5⟩
  refine ⟨_, rfl, ?_⟩
  have hS5 := And.intro (g5.kept hS4.1) (g5.kept hS4.2)
  refine WL_nil ⟨hS5, ?_⟩
  refine WD_one (c := 10) (by kernel_rfl) rfl ?_
  refine WL_parts [(v3, two (low x.1.n1)), (v4, wire x.1.host), (v5, pairsB x.1.pairs)] rfl (by simp) rfl rfl (by intro p hp; simp only [List.mem_cons, List.not_mem_nil, or_false] at hp; rcases hp with rfl | rfl | rfl; exact ((a3.reads.grow g4).grow g5); exact (a4.reads.grow g5); exact a5.reads) ?_
  intro b5 w6 hb5 p6 g6
  have hS6 := And.intro (g6.kept hS5.1) (g6.kept hS5.2)
  refine WL_nil ⟨hS6, ?_⟩
  have hl1 := wire_le x.1.host
  have hn1 := hok.host
  have hl2 := wire_le x.1.box
  have hn2 := hok.box
  simp only [lim] at hn1 hn2
  have hflat : (([(v3, two (low x.1.n1)), (v4, wire x.1.host), (v5, pairsB x.1.pairs)] : List (Value × Bytes)).map (·.2)).flatten = body 12 x.1 := by simp [body]
  have hj := spec_Joined w6 _ _ p6 (by simp) (by rw [hflat]; omega) (by intro p hp; simp only [List.mem_cons, List.not_mem_nil, or_false] at hp; rcases hp with rfl | rfl | rfl <;> simp only [two_length, four_length] <;> omega)
  rw [hflat] at hj
  refine WD_one (c := 11) (by kernel_rfl) rfl ?_
  refine WL_fun rfl ((hj).mono ?_)
  rintro e w7 ⟨v7, rfl, a7, g7⟩
  refine ⟨_, rfl, ?_⟩
  have hS7 := And.intro (g7.kept hS6.1) (g7.kept hS6.2)
  refine WL_nil ⟨hS7, ?_⟩
  refine WT 12 ?_
  refine WD_done (by kernel_rfl) ?_
  refine GO ?_
  exact ret1 (v := v7) Tryd.results37 rfl ⟨v7, rfl, Acc.mono a7 (((((G1.trans g2).trans g3).trans g4).trans g5).trans g6).size, ((((((G1.trans g2).trans g3).trans g4).trans g5).trans g6).trans g7)⟩
theorem host_HTTPS : HostC 12 := by
  intro w x hx hk
  have hok := hx.ok
  refine calls_of_WC Tryd.func61 rfl Tryd.ntmps61 rfl ?_
  refine GO ?_
  refine WL_box vv ?_
  intro b1 w0 hb1 h1 g0
  have h1 : w0.heap[b1]? = some (.cells (recCells x).toArray 61 (0, 0)) := h1
  refine GO ?_
  rw [hk]
  refine RUN ?_
  refine WL_fun rfl ((spec_NameOk w0 _ hok.host).mono ?_)
  rintro e w2 ⟨rfl, rfl⟩
  refine ⟨_, rfl, ?_⟩
  refine RUN ?_
  exact ret1 (v := .bool (nameOk x.1.host)) Tryd.results61 rfl ⟨rfl, g0⟩
/-- where arguments are small, no body is great -/
theorem small_HTTPS {x : RecM} (h : RecOkV x) : (body 12 x).length ≤ 140737488355328 := by
  have h1 := pairsB_le x.pairs lim (fun p hp => (h.pairs.2 p hp).2)
  have h2 := h.pairs.1
  have h3 := wire_le x.host
  have h4 := h.host
  have e : body 12 x = two (low x.n1) ++ wire x.host ++ pairsB x.pairs := rfl
  rw [e]
  simp only [lim] at h1 h2 h4
  simp only [List.length_append, two_length]
  omega
theorem bok_HTTPS : BodyOkC 12 := fun w x hx hk => spec_BodyOk12 body_HTTPS host_HTTPS w x hx hk (fun _ => small_HTTPS hx.ok)
end Go.Proofs.YtgkhfpkfjajdjaaDoor
